/-
  NARROWER THAN 'FOR EVERY INPUT', by the rows' own cells (each row's printed sentence says how): FnPredeclared: laid · FnFirst: laid · FnFirstPrefix: laid · FnFirstSpaces: laid.
  DERIVED. THE GIVEN ROWS OF THIS SEAT. 4 by the template 'for every input the law returns true; each argument reads behind the call as it read before'; 0 by the template 'total and deterministic' (their statements: YtpdgdkmcdbfaiaaDoorTotals.lean).
  GIVEN WITH THE SEED: the statements are not yours to turn. If you find one false, say at which input.
  Laid BY PROGRAM, IN A SANDBOX (cutbox-rows.mjs): the forced cells as the released guide's own fill.sh prints them over the translation 0803d6595accd5ea… (all of the seat's roots in one cut). By AI agents, Wed Nov 11 2026. No macro, syntax, notation, axiom, sorry.
-/
import Derived.Test.YtpdgdkmcdbfaiaaDoorChecked
import GoSem.PinnedTables
import GoSem.Claim
import GoSem.ClaimJoined
import GoSem.ClaimMapViews
import Derived.JoinedTies
import Derived.KernelRfl
namespace Go.Proofs.YtpdgdkmcdbfaiaaDoor
/- THE CELL 'sum', in the pinned program and in every row, IS THE sha256 OF THE DUMP (.gsa) THAT YtpdgdkmcdbfaiaaDoorProg.lean LOADS. Nothing in Lean hashes anything: it is a label: what it is worth is what the hold of that sum in a sandbox is worth. -/
noncomputable def Tryd.pinned : Pinned := { name := "ytpdgdkmcdbfaiaadoor", sum := "0803d6595accd5ea3a260bef4eebf0794bb18295e5fe1144f07c755a1c36aa0f", checked := Tryd.checked }
namespace Rows
def none {H : Type} : Left H := { results := [], args := [] }

/- WHAT THE LISTED PACKAGE-LEVEL VARIABLES READ AS WHEN THE CALL BEGINS. Each datum BY PROGRAM (the guide's laid-datum.mjs) off the statement by which the dump's own 'gosem.cut.vars' lays the variable. In a bare row this is a premise. The card (YtpdgdkmcdbfaiaaDoorCards.lean) ties it to the program's text. -/
def laid_gistmaker_pub_gosynopsis_predeclaredTypes {H : Type} : DataW H := .map [(.string [97, 110, 121], .lit (.bool true)), (.string [98, 111, 111, 108], .lit (.bool true)), (.string [98, 121, 116, 101], .lit (.bool true)), (.string [99, 111, 109, 112, 97, 114, 97, 98, 108, 101], .lit (.bool true)), (.string [99, 111, 109, 112, 108, 101, 120, 49, 50, 56], .lit (.bool true)), (.string [99, 111, 109, 112, 108, 101, 120, 54, 52], .lit (.bool true)), (.string [101, 114, 114, 111, 114], .lit (.bool true)), (.string [102, 108, 111, 97, 116, 51, 50], .lit (.bool true)), (.string [102, 108, 111, 97, 116, 54, 52], .lit (.bool true)), (.string [105, 110, 116], .lit (.bool true)), (.string [105, 110, 116, 49, 54], .lit (.bool true)), (.string [105, 110, 116, 51, 50], .lit (.bool true)), (.string [105, 110, 116, 54, 52], .lit (.bool true)), (.string [105, 110, 116, 56], .lit (.bool true)), (.string [114, 117, 110, 101], .lit (.bool true)), (.string [115, 116, 114, 105, 110, 103], .lit (.bool true)), (.string [117, 105, 110, 116], .lit (.bool true)), (.string [117, 105, 110, 116, 49, 54], .lit (.bool true)), (.string [117, 105, 110, 116, 51, 50], .lit (.bool true)), (.string [117, 105, 110, 116, 54, 52], .lit (.bool true)), (.string [117, 105, 110, 116, 56], .lit (.bool true)), (.string [117, 105, 110, 116, 112, 116, 114], .lit (.bool true))]
def laid_gistmaker_pub_gosynopsis_predeclaredFuncs {H : Type} : DataW H := .map [(.string [97, 112, 112, 101, 110, 100], .lit (.bool true)), (.string [99, 97, 112], .lit (.bool true)), (.string [99, 108, 101, 97, 114], .lit (.bool true)), (.string [99, 108, 111, 115, 101], .lit (.bool true)), (.string [99, 111, 109, 112, 108, 101, 120], .lit (.bool true)), (.string [99, 111, 112, 121], .lit (.bool true)), (.string [100, 101, 108, 101, 116, 101], .lit (.bool true)), (.string [105, 109, 97, 103], .lit (.bool true)), (.string [108, 101, 110], .lit (.bool true)), (.string [109, 97, 107, 101], .lit (.bool true)), (.string [109, 97, 120], .lit (.bool true)), (.string [109, 105, 110], .lit (.bool true)), (.string [110, 101, 119], .lit (.bool true)), (.string [112, 97, 110, 105, 99], .lit (.bool true)), (.string [112, 114, 105, 110, 116], .lit (.bool true)), (.string [112, 114, 105, 110, 116, 108, 110], .lit (.bool true)), (.string [114, 101, 97, 108], .lit (.bool true)), (.string [114, 101, 99, 111, 118, 101, 114], .lit (.bool true))]
def laid_gistmaker_pub_gosynopsis_predeclaredConstants {H : Type} : DataW H := .map [(.string [102, 97, 108, 115, 101], .lit (.bool true)), (.string [105, 111, 116, 97], .lit (.bool true)), (.string [110, 105, 108], .lit (.bool true)), (.string [116, 114, 117, 101], .lit (.bool true))]
def laid_unicode_properties {H : Type} : DataW H := .agg [.lit (.int .u8 1), .lit (.int .u8 1), .lit (.int .u8 1), .lit (.int .u8 1), .lit (.int .u8 1), .lit (.int .u8 1), .lit (.int .u8 1), .lit (.int .u8 1), .lit (.int .u8 1), .lit (.int .u8 1), .lit (.int .u8 1), .lit (.int .u8 1), .lit (.int .u8 1), .lit (.int .u8 1), .lit (.int .u8 1), .lit (.int .u8 1), .lit (.int .u8 1), .lit (.int .u8 1), .lit (.int .u8 1), .lit (.int .u8 1), .lit (.int .u8 1), .lit (.int .u8 1), .lit (.int .u8 1), .lit (.int .u8 1), .lit (.int .u8 1), .lit (.int .u8 1), .lit (.int .u8 1), .lit (.int .u8 1), .lit (.int .u8 1), .lit (.int .u8 1), .lit (.int .u8 1), .lit (.int .u8 1), .lit (.int .u8 144), .lit (.int .u8 130), .lit (.int .u8 130), .lit (.int .u8 130), .lit (.int .u8 136), .lit (.int .u8 130), .lit (.int .u8 130), .lit (.int .u8 130), .lit (.int .u8 130), .lit (.int .u8 130), .lit (.int .u8 130), .lit (.int .u8 136), .lit (.int .u8 130), .lit (.int .u8 130), .lit (.int .u8 130), .lit (.int .u8 130), .lit (.int .u8 132), .lit (.int .u8 132), .lit (.int .u8 132), .lit (.int .u8 132), .lit (.int .u8 132), .lit (.int .u8 132), .lit (.int .u8 132), .lit (.int .u8 132), .lit (.int .u8 132), .lit (.int .u8 132), .lit (.int .u8 130), .lit (.int .u8 130), .lit (.int .u8 136), .lit (.int .u8 136), .lit (.int .u8 136), .lit (.int .u8 130), .lit (.int .u8 130), .lit (.int .u8 160), .lit (.int .u8 160), .lit (.int .u8 160), .lit (.int .u8 160), .lit (.int .u8 160), .lit (.int .u8 160), .lit (.int .u8 160), .lit (.int .u8 160), .lit (.int .u8 160), .lit (.int .u8 160), .lit (.int .u8 160), .lit (.int .u8 160), .lit (.int .u8 160), .lit (.int .u8 160), .lit (.int .u8 160), .lit (.int .u8 160), .lit (.int .u8 160), .lit (.int .u8 160), .lit (.int .u8 160), .lit (.int .u8 160), .lit (.int .u8 160), .lit (.int .u8 160), .lit (.int .u8 160), .lit (.int .u8 160), .lit (.int .u8 160), .lit (.int .u8 160), .lit (.int .u8 130), .lit (.int .u8 130), .lit (.int .u8 130), .lit (.int .u8 136), .lit (.int .u8 130), .lit (.int .u8 136), .lit (.int .u8 192), .lit (.int .u8 192), .lit (.int .u8 192), .lit (.int .u8 192), .lit (.int .u8 192), .lit (.int .u8 192), .lit (.int .u8 192), .lit (.int .u8 192), .lit (.int .u8 192), .lit (.int .u8 192), .lit (.int .u8 192), .lit (.int .u8 192), .lit (.int .u8 192), .lit (.int .u8 192), .lit (.int .u8 192), .lit (.int .u8 192), .lit (.int .u8 192), .lit (.int .u8 192), .lit (.int .u8 192), .lit (.int .u8 192), .lit (.int .u8 192), .lit (.int .u8 192), .lit (.int .u8 192), .lit (.int .u8 192), .lit (.int .u8 192), .lit (.int .u8 192), .lit (.int .u8 130), .lit (.int .u8 136), .lit (.int .u8 130), .lit (.int .u8 136), .lit (.int .u8 1), .lit (.int .u8 1), .lit (.int .u8 1), .lit (.int .u8 1), .lit (.int .u8 1), .lit (.int .u8 1), .lit (.int .u8 1), .lit (.int .u8 1), .lit (.int .u8 1), .lit (.int .u8 1), .lit (.int .u8 1), .lit (.int .u8 1), .lit (.int .u8 1), .lit (.int .u8 1), .lit (.int .u8 1), .lit (.int .u8 1), .lit (.int .u8 1), .lit (.int .u8 1), .lit (.int .u8 1), .lit (.int .u8 1), .lit (.int .u8 1), .lit (.int .u8 1), .lit (.int .u8 1), .lit (.int .u8 1), .lit (.int .u8 1), .lit (.int .u8 1), .lit (.int .u8 1), .lit (.int .u8 1), .lit (.int .u8 1), .lit (.int .u8 1), .lit (.int .u8 1), .lit (.int .u8 1), .lit (.int .u8 1), .lit (.int .u8 16), .lit (.int .u8 130), .lit (.int .u8 136), .lit (.int .u8 136), .lit (.int .u8 136), .lit (.int .u8 136), .lit (.int .u8 136), .lit (.int .u8 130), .lit (.int .u8 136), .lit (.int .u8 136), .lit (.int .u8 224), .lit (.int .u8 130), .lit (.int .u8 136), .lit (.int .u8 0), .lit (.int .u8 136), .lit (.int .u8 136), .lit (.int .u8 136), .lit (.int .u8 136), .lit (.int .u8 132), .lit (.int .u8 132), .lit (.int .u8 136), .lit (.int .u8 192), .lit (.int .u8 130), .lit (.int .u8 130), .lit (.int .u8 136), .lit (.int .u8 132), .lit (.int .u8 224), .lit (.int .u8 130), .lit (.int .u8 132), .lit (.int .u8 132), .lit (.int .u8 132), .lit (.int .u8 130), .lit (.int .u8 160), .lit (.int .u8 160), .lit (.int .u8 160), .lit (.int .u8 160), .lit (.int .u8 160), .lit (.int .u8 160), .lit (.int .u8 160), .lit (.int .u8 160), .lit (.int .u8 160), .lit (.int .u8 160), .lit (.int .u8 160), .lit (.int .u8 160), .lit (.int .u8 160), .lit (.int .u8 160), .lit (.int .u8 160), .lit (.int .u8 160), .lit (.int .u8 160), .lit (.int .u8 160), .lit (.int .u8 160), .lit (.int .u8 160), .lit (.int .u8 160), .lit (.int .u8 160), .lit (.int .u8 160), .lit (.int .u8 136), .lit (.int .u8 160), .lit (.int .u8 160), .lit (.int .u8 160), .lit (.int .u8 160), .lit (.int .u8 160), .lit (.int .u8 160), .lit (.int .u8 160), .lit (.int .u8 192), .lit (.int .u8 192), .lit (.int .u8 192), .lit (.int .u8 192), .lit (.int .u8 192), .lit (.int .u8 192), .lit (.int .u8 192), .lit (.int .u8 192), .lit (.int .u8 192), .lit (.int .u8 192), .lit (.int .u8 192), .lit (.int .u8 192), .lit (.int .u8 192), .lit (.int .u8 192), .lit (.int .u8 192), .lit (.int .u8 192), .lit (.int .u8 192), .lit (.int .u8 192), .lit (.int .u8 192), .lit (.int .u8 192), .lit (.int .u8 192), .lit (.int .u8 192), .lit (.int .u8 192), .lit (.int .u8 192), .lit (.int .u8 136), .lit (.int .u8 192), .lit (.int .u8 192), .lit (.int .u8 192), .lit (.int .u8 192), .lit (.int .u8 192), .lit (.int .u8 192), .lit (.int .u8 192), .lit (.int .u8 192)]
/-- One of Go's own tables, pinned by name: the form's constant. -/
def laid_unicode_Upper : DataW Unit := Go.Pinned.upper

/-- 'laws.FnPredeclared': WHATEVER THE INPUT: true; the input reads as it did. -/
def fnPredeclaredSpec : ChangeSpec := { name := "fnPredeclared", fn := fun _ => fun
  | [d] => { results := [.lit (.bool true)], args := [d] }
  | _ => none }
def fnPredeclaredRow : OpenClaim := { program := "ytpdgdkmcdbfaiaadoor", sum := "0803d6595accd5ea3a260bef4eebf0794bb18295e5fe1144f07c755a1c36aa0f", func := "gistmaker/laws.FnPredeclared", spec := "fnPredeclared", named := ["gistmaker/pub/gosynopsis.predeclaredTypes", "gistmaker/pub/gosynopsis.predeclaredFuncs", "gistmaker/pub/gosynopsis.predeclaredConstants"], apart := false, laid := [("gistmaker/pub/gosynopsis.predeclaredTypes", laid_gistmaker_pub_gosynopsis_predeclaredTypes), ("gistmaker/pub/gosynopsis.predeclaredFuncs", laid_gistmaker_pub_gosynopsis_predeclaredFuncs), ("gistmaker/pub/gosynopsis.predeclaredConstants", laid_gistmaker_pub_gosynopsis_predeclaredConstants)] }
def FnPredeclaredSaid : Prop := fnPredeclaredRow.holds Tryd.pinned (OpenSpec.ofChange fnPredeclaredSpec)

/-- ITS FALSE NEIGHBOUR: 'it returns false'. Refute it at one input. -/
def fnPredeclaredWrong : ChangeSpec := { name := "fnPredeclared", fn := fun _ => fun
  | [d] => { results := [.lit (.bool false)], args := [d] }
  | _ => none }
def FnPredeclaredWrongFalsely : Prop := fnPredeclaredRow.holds Tryd.pinned (OpenSpec.ofChange fnPredeclaredWrong)

/-- 'laws.FnFirst': WHATEVER THE INPUT: true; the input reads as it did. -/
def fnFirstSpec : ChangeSpec := { name := "fnFirst", fn := fun _ => fun
  | [d] => { results := [.lit (.bool true)], args := [d] }
  | _ => none }
def fnFirstRow : OpenClaim := { program := "ytpdgdkmcdbfaiaadoor", sum := "0803d6595accd5ea3a260bef4eebf0794bb18295e5fe1144f07c755a1c36aa0f", func := "gistmaker/laws.FnFirst", spec := "fnFirst", named := ["unicode.properties", "unicode.Upper"], apart := false, laid := [("unicode.properties", laid_unicode_properties), ("unicode.Upper", laid_unicode_Upper)] }
def FnFirstSaid : Prop := fnFirstRow.holds Tryd.pinned (OpenSpec.ofChange fnFirstSpec)

/-- ITS FALSE NEIGHBOUR: 'it returns false'. Refute it at one input. -/
def fnFirstWrong : ChangeSpec := { name := "fnFirst", fn := fun _ => fun
  | [d] => { results := [.lit (.bool false)], args := [d] }
  | _ => none }
def FnFirstWrongFalsely : Prop := fnFirstRow.holds Tryd.pinned (OpenSpec.ofChange fnFirstWrong)

/-- 'laws.FnFirstPrefix': WHATEVER THE INPUT: true; the input reads as it did. -/
def fnFirstPrefixSpec : ChangeSpec := { name := "fnFirstPrefix", fn := fun _ => fun
  | [d] => { results := [.lit (.bool true)], args := [d] }
  | _ => none }
def fnFirstPrefixRow : OpenClaim := { program := "ytpdgdkmcdbfaiaadoor", sum := "0803d6595accd5ea3a260bef4eebf0794bb18295e5fe1144f07c755a1c36aa0f", func := "gistmaker/laws.FnFirstPrefix", spec := "fnFirstPrefix", named := ["unicode.properties", "unicode.Upper"], apart := false, laid := [("unicode.properties", laid_unicode_properties), ("unicode.Upper", laid_unicode_Upper)] }
def FnFirstPrefixSaid : Prop := fnFirstPrefixRow.holds Tryd.pinned (OpenSpec.ofChange fnFirstPrefixSpec)

/-- ITS FALSE NEIGHBOUR: 'it returns false'. Refute it at one input. -/
def fnFirstPrefixWrong : ChangeSpec := { name := "fnFirstPrefix", fn := fun _ => fun
  | [d] => { results := [.lit (.bool false)], args := [d] }
  | _ => none }
def FnFirstPrefixWrongFalsely : Prop := fnFirstPrefixRow.holds Tryd.pinned (OpenSpec.ofChange fnFirstPrefixWrong)

/-- 'laws.FnFirstSpaces': WHATEVER THE INPUT: true; the input reads as it did. -/
def fnFirstSpacesSpec : ChangeSpec := { name := "fnFirstSpaces", fn := fun _ => fun
  | [d] => { results := [.lit (.bool true)], args := [d] }
  | _ => none }
def fnFirstSpacesRow : OpenClaim := { program := "ytpdgdkmcdbfaiaadoor", sum := "0803d6595accd5ea3a260bef4eebf0794bb18295e5fe1144f07c755a1c36aa0f", func := "gistmaker/laws.FnFirstSpaces", spec := "fnFirstSpaces", named := ["unicode.properties", "unicode.Upper"], apart := false, laid := [("unicode.properties", laid_unicode_properties), ("unicode.Upper", laid_unicode_Upper)] }
def FnFirstSpacesSaid : Prop := fnFirstSpacesRow.holds Tryd.pinned (OpenSpec.ofChange fnFirstSpacesSpec)

/-- ITS FALSE NEIGHBOUR: 'it returns false'. Refute it at one input. -/
def fnFirstSpacesWrong : ChangeSpec := { name := "fnFirstSpaces", fn := fun _ => fun
  | [d] => { results := [.lit (.bool false)], args := [d] }
  | _ => none }
def FnFirstSpacesWrongFalsely : Prop := fnFirstSpacesRow.holds Tryd.pinned (OpenSpec.ofChange fnFirstSpacesWrong)

/- THE SECOND FORM. 'bulk': how many values and letters a reading holds, each counted each time it is reached (what is shared counts as often as it is met; a slice's spare places count too). A statement '..UptoSaid' is the law's where the arguments, and the package variables that the reading takes, are together of bulk at most 1048576: NARROWER than '..Said'. Prove '..Said' where nothing that the law and all that it calls make is longer than what came in: it says more and counts as full. Else prove '..UptoSaid'. A law counts once. -/
mutual
def uptoBulk {H : Type} : DataW H → Nat
  | .lit (.string bytes) => bytes.length + 1
  | .lit _ => 1
  | .nil => 1
  | .ptr d => uptoBulk d + 1
  | .slice elems spare => uptoBulkAll elems + uptoBulkAll spare + 1
  | .agg parts => uptoBulkAll parts + 1
  | .iface _ d => uptoBulk d + 1
  | .map entries => uptoBulkEntries entries + 1
  | .held _ => 1
def uptoBulkAll {H : Type} : List (DataW H) → Nat
  | [] => 0
  | d :: r => uptoBulk d + uptoBulkAll r
def uptoBulkEntries {H : Type} : List (Lit × DataW H) → Nat
  | [] => 0
  | x :: r => uptoBulkEntry x + uptoBulkEntries r
def uptoBulkEntry {H : Type} : Lit × DataW H → Nat
  | (.string bytes, d) => bytes.length + uptoBulk d + 1
  | (_, d) => uptoBulk d + 1
 end
def uptoSmall : (H : Type) → List (DataW H) → Bool := fun _ ds => decide (uptoBulkAll ds ≤ 1048576)
def OpenSpec.upto (s : _root_.Go.ChangeSpec) : _root_.Go.OpenSpec := { _root_.Go.OpenSpec.ofChange s with cond := some uptoSmall }

/-- 'laws.FnPredeclared', WHERE WHAT IT READS IS OF BULK AT MOST 1048576: true; the input reads as it did. -/
def fnPredeclaredUptoRow : OpenClaim := { program := "ytpdgdkmcdbfaiaadoor", sum := "0803d6595accd5ea3a260bef4eebf0794bb18295e5fe1144f07c755a1c36aa0f", func := "gistmaker/laws.FnPredeclared", spec := "fnPredeclared", named := ["gistmaker/pub/gosynopsis.predeclaredTypes", "gistmaker/pub/gosynopsis.predeclaredFuncs", "gistmaker/pub/gosynopsis.predeclaredConstants"], apart := false, laid := [("gistmaker/pub/gosynopsis.predeclaredTypes", laid_gistmaker_pub_gosynopsis_predeclaredTypes), ("gistmaker/pub/gosynopsis.predeclaredFuncs", laid_gistmaker_pub_gosynopsis_predeclaredFuncs), ("gistmaker/pub/gosynopsis.predeclaredConstants", laid_gistmaker_pub_gosynopsis_predeclaredConstants)], narrowed := true }
def FnPredeclaredUptoSaid : Prop := fnPredeclaredUptoRow.holds Tryd.pinned (OpenSpec.upto fnPredeclaredSpec)

/-- 'laws.FnFirst', WHERE WHAT IT READS IS OF BULK AT MOST 1048576: true; the input reads as it did. -/
def fnFirstUptoRow : OpenClaim := { program := "ytpdgdkmcdbfaiaadoor", sum := "0803d6595accd5ea3a260bef4eebf0794bb18295e5fe1144f07c755a1c36aa0f", func := "gistmaker/laws.FnFirst", spec := "fnFirst", named := ["unicode.properties", "unicode.Upper"], apart := false, laid := [("unicode.properties", laid_unicode_properties), ("unicode.Upper", laid_unicode_Upper)], narrowed := true }
def FnFirstUptoSaid : Prop := fnFirstUptoRow.holds Tryd.pinned (OpenSpec.upto fnFirstSpec)

/-- 'laws.FnFirstPrefix', WHERE WHAT IT READS IS OF BULK AT MOST 1048576: true; the input reads as it did. -/
def fnFirstPrefixUptoRow : OpenClaim := { program := "ytpdgdkmcdbfaiaadoor", sum := "0803d6595accd5ea3a260bef4eebf0794bb18295e5fe1144f07c755a1c36aa0f", func := "gistmaker/laws.FnFirstPrefix", spec := "fnFirstPrefix", named := ["unicode.properties", "unicode.Upper"], apart := false, laid := [("unicode.properties", laid_unicode_properties), ("unicode.Upper", laid_unicode_Upper)], narrowed := true }
def FnFirstPrefixUptoSaid : Prop := fnFirstPrefixUptoRow.holds Tryd.pinned (OpenSpec.upto fnFirstPrefixSpec)

/-- 'laws.FnFirstSpaces', WHERE WHAT IT READS IS OF BULK AT MOST 1048576: true; the input reads as it did. -/
def fnFirstSpacesUptoRow : OpenClaim := { program := "ytpdgdkmcdbfaiaadoor", sum := "0803d6595accd5ea3a260bef4eebf0794bb18295e5fe1144f07c755a1c36aa0f", func := "gistmaker/laws.FnFirstSpaces", spec := "fnFirstSpaces", named := ["unicode.properties", "unicode.Upper"], apart := false, laid := [("unicode.properties", laid_unicode_properties), ("unicode.Upper", laid_unicode_Upper)], narrowed := true }
def FnFirstSpacesUptoSaid : Prop := fnFirstSpacesUptoRow.holds Tryd.pinned (OpenSpec.upto fnFirstSpacesSpec)

end Rows
end Go.Proofs.YtpdgdkmcdbfaiaaDoor
