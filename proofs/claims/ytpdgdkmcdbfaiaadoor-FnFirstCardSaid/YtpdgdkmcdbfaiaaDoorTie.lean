/-
  DERIVED. GIVEN WITH THE SEED: THE PROGRAM's TIES (one call each: nine closed facts by the kernel) AND EACH ROW's TIE, after the 31st guide's Derived/Test/Toyas{Tie, Card}.lean. No idea stands in it: it is a product of the set-up. Laid BY PROGRAM, IN A SANDBOX (cutbox-door.mjs). By AI agents, Wed Nov 11 2026. No macro, syntax, notation, axiom, sorry.
-/
import Derived.Test.YtpdgdkmcdbfaiaaDoorRows
import Derived.LaidByTextLater
import Derived.SevenTiedAt
import Derived.LaidSub
import Derived.LaidOnce
namespace Go.Proofs.YtpdgdkmcdbfaiaaDoor
open Go
set_option maxRecDepth 100000
theorem seatTie1 : Tryd.prog.laidByTextLater [("gistmaker/pub/gosynopsis.predeclaredTypes", Rows.laid_gistmaker_pub_gosynopsis_predeclaredTypes), ("gistmaker/pub/gosynopsis.predeclaredFuncs", Rows.laid_gistmaker_pub_gosynopsis_predeclaredFuncs), ("gistmaker/pub/gosynopsis.predeclaredConstants", Rows.laid_gistmaker_pub_gosynopsis_predeclaredConstants)] [.mapped, .mapped, .mapped] true :=
  Program.laidByTextLater_by_one 249 8 257 (by kernel_rfl) (by kernel_rfl) (by kernel_rfl) (by kernel_rfl) (by kernel_rfl) (by kernel_rfl) (fun _ _ => by kernel_rfl)
theorem seatTie2 : Tryd.prog.laidByTextLater [("unicode.properties", Rows.laid_unicode_properties)] [.data] true :=
  Program.laidByTextLater_by_one 249 8 257 (by kernel_rfl) (by kernel_rfl) (by kernel_rfl) (by kernel_rfl) (by kernel_rfl) (by kernel_rfl) (fun _ _ => by kernel_rfl)
theorem pin_laid_unicode_Upper : Tryd.pinned.checked.prog.pinnedFits "unicode.Upper" = true := by kernel_rfl
theorem noOwnUnsafe : Tryd.pinned.checked.prog.headLifts.contains "ownunsafe" = false := by kernel_rfl
theorem tie : Tryd.prog.laidByTextLater [("gistmaker/pub/gosynopsis.predeclaredTypes", Rows.laid_gistmaker_pub_gosynopsis_predeclaredTypes), ("gistmaker/pub/gosynopsis.predeclaredFuncs", Rows.laid_gistmaker_pub_gosynopsis_predeclaredFuncs), ("gistmaker/pub/gosynopsis.predeclaredConstants", Rows.laid_gistmaker_pub_gosynopsis_predeclaredConstants)] [.mapped, .mapped, .mapped] true :=
  Program.laidByTextLater.sub seatTie1 ["gistmaker/pub/gosynopsis.predeclaredTypes", "gistmaker/pub/gosynopsis.predeclaredFuncs", "gistmaker/pub/gosynopsis.predeclaredConstants"] (by kernel_rfl) (by kernel_rfl)
theorem fnPredeclared_row_tie : Rows.fnPredeclaredRow.laidByTextAt .later Tryd.pinned [.mapped, .mapped, .mapped] true :=
  OpenClaim.laidByTextAt_later rfl rfl tie noOwnUnsafe
theorem fits2 : Tryd.pinned.checked.prog.listedFits [("unicode.properties", Rows.laid_unicode_properties), ("unicode.Upper", Rows.laid_unicode_Upper)] = true := by
  unfold Program.listedFits
  rw [noOwnUnsafe]
  kernel_rfl
theorem tie2 : Tryd.prog.laidByTextLater [("unicode.properties", Rows.laid_unicode_properties)] [.data] true :=
  Program.laidByTextLater.sub seatTie2 ["unicode.properties"] (by kernel_rfl) (by kernel_rfl)
theorem fnFirst_row_tie : Rows.fnFirstRow.laidByTextAt .later Tryd.pinned [.data, .pinned] true :=
  OpenClaim.laidByTextAt_pinned rfl rfl tie2 rfl rfl rfl rfl (fun y hy _e => by
    simp only [Rows.fnFirstRow, List.zip_cons_cons, List.zip_nil_right, List.mem_cons, List.mem_nil_iff, or_false] at hy
    rcases hy with rfl | rfl
    · cases _e
    · exact ⟨pin_laid_unicode_Upper, by kernel_rfl⟩) fits2
theorem fnFirstPrefix_row_tie : Rows.fnFirstPrefixRow.laidByTextAt .later Tryd.pinned [.data, .pinned] true :=
  OpenClaim.laidByTextAt_pinned rfl rfl tie2 rfl rfl rfl rfl (fun y hy _e => by
    simp only [Rows.fnFirstPrefixRow, List.zip_cons_cons, List.zip_nil_right, List.mem_cons, List.mem_nil_iff, or_false] at hy
    rcases hy with rfl | rfl
    · cases _e
    · exact ⟨pin_laid_unicode_Upper, by kernel_rfl⟩) fits2
theorem fnFirstSpaces_row_tie : Rows.fnFirstSpacesRow.laidByTextAt .later Tryd.pinned [.data, .pinned] true :=
  OpenClaim.laidByTextAt_pinned rfl rfl tie2 rfl rfl rfl rfl (fun y hy _e => by
    simp only [Rows.fnFirstSpacesRow, List.zip_cons_cons, List.zip_nil_right, List.mem_cons, List.mem_nil_iff, or_false] at hy
    rcases hy with rfl | rfl
    · cases _e
    · exact ⟨pin_laid_unicode_Upper, by kernel_rfl⟩) fits2
theorem fnPredeclaredUpto_row_tie : Rows.fnPredeclaredUptoRow.laidByTextAt .later Tryd.pinned [.mapped, .mapped, .mapped] true :=
  OpenClaim.laidByTextAt_later rfl rfl tie noOwnUnsafe
theorem fnFirstUpto_row_tie : Rows.fnFirstUptoRow.laidByTextAt .later Tryd.pinned [.data, .pinned] true :=
  OpenClaim.laidByTextAt_pinned rfl rfl tie2 rfl rfl rfl rfl (fun y hy _e => by
    simp only [Rows.fnFirstUptoRow, List.zip_cons_cons, List.zip_nil_right, List.mem_cons, List.mem_nil_iff, or_false] at hy
    rcases hy with rfl | rfl
    · cases _e
    · exact ⟨pin_laid_unicode_Upper, by kernel_rfl⟩) fits2
theorem fnFirstPrefixUpto_row_tie : Rows.fnFirstPrefixUptoRow.laidByTextAt .later Tryd.pinned [.data, .pinned] true :=
  OpenClaim.laidByTextAt_pinned rfl rfl tie2 rfl rfl rfl rfl (fun y hy _e => by
    simp only [Rows.fnFirstPrefixUptoRow, List.zip_cons_cons, List.zip_nil_right, List.mem_cons, List.mem_nil_iff, or_false] at hy
    rcases hy with rfl | rfl
    · cases _e
    · exact ⟨pin_laid_unicode_Upper, by kernel_rfl⟩) fits2
theorem fnFirstSpacesUpto_row_tie : Rows.fnFirstSpacesUptoRow.laidByTextAt .later Tryd.pinned [.data, .pinned] true :=
  OpenClaim.laidByTextAt_pinned rfl rfl tie2 rfl rfl rfl rfl (fun y hy _e => by
    simp only [Rows.fnFirstSpacesUptoRow, List.zip_cons_cons, List.zip_nil_right, List.mem_cons, List.mem_nil_iff, or_false] at hy
    rcases hy with rfl | rfl
    · cases _e
    · exact ⟨pin_laid_unicode_Upper, by kernel_rfl⟩) fits2
end Go.Proofs.YtpdgdkmcdbfaiaaDoor
