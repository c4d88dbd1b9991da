/-
  DERIVED. GIVEN WITH THE SEED: THE CARDS: each row of YtpdgdkmcdbfaiaaDoorRows.lean that lists a variable, with what it lists TIED to the program's text (the seventh form; the later family's looks); each row that meets fmt, with fmt's text TOLD by the authors' own Lean function (tested against real Go, not proved from fmt's source: count such statements apart). THE CARD IS WHAT COUNTS. Prove the row's statement (the work); the ties are given (YtpdgdkmcdbfaiaaDoorTie.lean); close each card by the builder's one call (the guide's Derived/Test/ToyasCard.lean, 'card_holds'). Laid BY PROGRAM, IN A SANDBOX (cutbox-door.mjs). By AI agents, Wed Nov 11 2026. No macro, syntax, notation, axiom, sorry.
-/
import Derived.Test.YtpdgdkmcdbfaiaaDoorRows
import GoSem.ClaimSeven
namespace Go.Proofs.YtpdgdkmcdbfaiaaDoor
namespace Rows

/-- THE TIED CARD OF 'laws.FnPredeclared'. -/
def fnPredeclaredCard : Claim7 := { stood := { row := fnPredeclaredRow, standIns := [], harness := (true, "5998e8a1f3b3d55bfbaab95310e91a682a3edb558c2f3eb7d0ec3ab25b7af198"), looks := false }, kinds := [], alts := [], laidByText := true, laidKinds := [.mapped, .mapped, .mapped], laidTests := true, laidLooks := .later }
def FnPredeclaredCardSaid : Prop := Claim7.holds Tryd.pinned (.plain (OpenSpec.ofChange fnPredeclaredSpec)) fnPredeclaredCard

/-- THE TIED CARD OF 'laws.FnFirst'. -/
def fnFirstCard : Claim7 := { stood := { row := fnFirstRow, standIns := [], harness := (true, "5998e8a1f3b3d55bfbaab95310e91a682a3edb558c2f3eb7d0ec3ab25b7af198"), looks := false }, kinds := [], alts := [], laidByText := true, laidKinds := [.data, .pinned], laidTests := true, laidLooks := .later }
def FnFirstCardSaid : Prop := Claim7.holds Tryd.pinned (.plain (OpenSpec.ofChange fnFirstSpec)) fnFirstCard

/-- THE TIED CARD OF 'laws.FnFirstPrefix'. -/
def fnFirstPrefixCard : Claim7 := { stood := { row := fnFirstPrefixRow, standIns := [], harness := (true, "5998e8a1f3b3d55bfbaab95310e91a682a3edb558c2f3eb7d0ec3ab25b7af198"), looks := false }, kinds := [], alts := [], laidByText := true, laidKinds := [.data, .pinned], laidTests := true, laidLooks := .later }
def FnFirstPrefixCardSaid : Prop := Claim7.holds Tryd.pinned (.plain (OpenSpec.ofChange fnFirstPrefixSpec)) fnFirstPrefixCard

/-- THE TIED CARD OF 'laws.FnFirstSpaces'. -/
def fnFirstSpacesCard : Claim7 := { stood := { row := fnFirstSpacesRow, standIns := [], harness := (true, "5998e8a1f3b3d55bfbaab95310e91a682a3edb558c2f3eb7d0ec3ab25b7af198"), looks := false }, kinds := [], alts := [], laidByText := true, laidKinds := [.data, .pinned], laidTests := true, laidLooks := .later }
def FnFirstSpacesCardSaid : Prop := Claim7.holds Tryd.pinned (.plain (OpenSpec.ofChange fnFirstSpacesSpec)) fnFirstSpacesCard

/-- THE SECOND FORM's CARD OF 'laws.FnPredeclared'. -/
def fnPredeclaredUptoCard : Claim7 := { stood := { row := fnPredeclaredUptoRow, standIns := [], harness := (true, "5998e8a1f3b3d55bfbaab95310e91a682a3edb558c2f3eb7d0ec3ab25b7af198"), looks := false }, kinds := [], alts := [], laidByText := true, laidKinds := [.mapped, .mapped, .mapped], laidTests := true, laidLooks := .later }
def FnPredeclaredUptoCardSaid : Prop := Claim7.holds Tryd.pinned (.plain (OpenSpec.upto fnPredeclaredSpec)) fnPredeclaredUptoCard

/-- THE SECOND FORM's CARD OF 'laws.FnFirst'. -/
def fnFirstUptoCard : Claim7 := { stood := { row := fnFirstUptoRow, standIns := [], harness := (true, "5998e8a1f3b3d55bfbaab95310e91a682a3edb558c2f3eb7d0ec3ab25b7af198"), looks := false }, kinds := [], alts := [], laidByText := true, laidKinds := [.data, .pinned], laidTests := true, laidLooks := .later }
def FnFirstUptoCardSaid : Prop := Claim7.holds Tryd.pinned (.plain (OpenSpec.upto fnFirstSpec)) fnFirstUptoCard

/-- THE SECOND FORM's CARD OF 'laws.FnFirstPrefix'. -/
def fnFirstPrefixUptoCard : Claim7 := { stood := { row := fnFirstPrefixUptoRow, standIns := [], harness := (true, "5998e8a1f3b3d55bfbaab95310e91a682a3edb558c2f3eb7d0ec3ab25b7af198"), looks := false }, kinds := [], alts := [], laidByText := true, laidKinds := [.data, .pinned], laidTests := true, laidLooks := .later }
def FnFirstPrefixUptoCardSaid : Prop := Claim7.holds Tryd.pinned (.plain (OpenSpec.upto fnFirstPrefixSpec)) fnFirstPrefixUptoCard

/-- THE SECOND FORM's CARD OF 'laws.FnFirstSpaces'. -/
def fnFirstSpacesUptoCard : Claim7 := { stood := { row := fnFirstSpacesUptoRow, standIns := [], harness := (true, "5998e8a1f3b3d55bfbaab95310e91a682a3edb558c2f3eb7d0ec3ab25b7af198"), looks := false }, kinds := [], alts := [], laidByText := true, laidKinds := [.data, .pinned], laidTests := true, laidLooks := .later }
def FnFirstSpacesUptoCardSaid : Prop := Claim7.holds Tryd.pinned (.plain (OpenSpec.upto fnFirstSpacesSpec)) fnFirstSpacesUptoCard
end Rows
end Go.Proofs.YtpdgdkmcdbfaiaaDoor
