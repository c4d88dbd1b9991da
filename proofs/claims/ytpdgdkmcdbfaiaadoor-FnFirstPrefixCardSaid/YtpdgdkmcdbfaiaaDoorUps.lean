/-
  THE LIBRARY's unicode.IsUpper AT THIS DUMP: for every rune it answers 'isUpperU', in this world and in every later one; conditions: unicode.properties and unicode.Upper hold Go's own tables. (The laying 'lays201' is the shelf's tools' print.)
-/
import Derived.Test.YtpdgdkmcdbfaiaaDoorFiW
import Derived.Shelf.Unicode.PredsAny
import Derived.Shelf.Unicode.PredsPay
import Derived.PinnedBridge
import Derived.MakeChecks
namespace Go.Proofs.YtpdgdkmcdbfaiaaDoor.Up
open Go.Shelf Go.Proofs
def lays201_ren : Go.Shelf.Ren := ⟨fun | 201 => 17 | 261 => 18 | 311 => 19 | 312 => 20 | n => n, fun | 21 => 21 | 4 => 4 | 51 => 29 | 5 => 5 | 119 => 30 | 0 => 0 | 141 => 32 | 196 => 36 | 193 => 33 | 3 => 3 | 198 => 39 | 49 => 37 | 194 => 34 | 201 => 42 | 226 => 44 | 46 => 45 | 227 => 46 | n => n, fun | 7 => 3 | 9 => 4 | n => n⟩
theorem lays201 : Go.Proofs.Lays.n201 Tryd.prog lays201_ren := {
  mixed := by kernel_rfl
  f201 := Tryd.func17.trans (congrArg some (by kernel_rfl))
  f261 := Tryd.func18.trans (congrArg some (by kernel_rfl))
  f311 := Tryd.func19.trans (congrArg some (by kernel_rfl))
  f312 := Tryd.func20.trans (congrArg some (by kernel_rfl))
  t0 := Tryd.underlying0
  a0 := Tryd.isAgg0
  z0 := Tryd.sizeOf0
  v0 := Tryd.zeroValue0
  t3 := Tryd.underlying3
  a3 := Tryd.isAgg3
  z3 := Tryd.sizeOf3
  v3 := Tryd.zeroValue3
  t4 := Tryd.underlying4
  a4 := Tryd.isAgg4
  z4 := Tryd.sizeOf4
  v4 := Tryd.zeroValue4
  t5 := Tryd.underlying5
  a5 := Tryd.isAgg5
  z5 := Tryd.sizeOf5
  v5 := Tryd.zeroValue5
  t21 := Tryd.underlying21
  a21 := Tryd.isAgg21
  z21 := Tryd.sizeOf21
  v21 := Tryd.zeroValue21
  t46 := Tryd.underlying45
  a46 := Tryd.isAgg45
  z46 := Tryd.sizeOf45
  v46 := Tryd.zeroValue45
  t49 := Tryd.underlying37
  a49 := Tryd.isAgg37
  z49 := Tryd.sizeOf37
  v49 := Tryd.zeroValue37
  t51 := Tryd.underlying29
  a51 := Tryd.isAgg29
  z51 := Tryd.sizeOf29
  v51 := Tryd.zeroValue29
  t119 := Tryd.underlying30
  a119 := Tryd.isAgg30
  z119 := Tryd.sizeOf30
  t141 := Tryd.underlying32
  a141 := Tryd.isAgg32
  z141 := Tryd.sizeOf32
  v141 := Tryd.zeroValue32
  t193 := Tryd.underlying33
  a193 := Tryd.isAgg33
  z193 := Tryd.sizeOf33
  v193 := Tryd.zeroValue33
  t194 := Tryd.underlying34
  a194 := Tryd.isAgg34
  z194 := Tryd.sizeOf34
  v194 := Tryd.zeroValue34
  t196 := Tryd.underlying36
  a196 := Tryd.isAgg36
  z196 := Tryd.sizeOf36
  v196 := Tryd.zeroValue36
  t198 := Tryd.underlying39
  a198 := Tryd.isAgg39
  z198 := Tryd.sizeOf39
  v198 := Tryd.zeroValue39
  t201 := Tryd.underlying42
  a201 := Tryd.isAgg42
  z201 := Tryd.sizeOf42
  v201 := Tryd.zeroValue42
  t226 := Tryd.underlying44
  a226 := Tryd.isAgg44
  z226 := Tryd.sizeOf44
  v226 := Tryd.zeroValue44
  t227 := Tryd.underlying46
  a227 := Tryd.isAgg46
  z227 := Tryd.sizeOf46
  v227 := Tryd.zeroValue46
  g7 := by kernel_rfl
  g9 := by kernel_rfl }

theorem xU : RExtra Tryd.prog lays201_ren := ⟨by kernel_rfl, by kernel_rfl, by kernel_rfl, by kernel_rfl, by kernel_rfl, by kernel_rfl, by kernel_rfl, by kernel_rfl⟩
open Go.RowKit Go.Lib

theorem ups (w : World) (htab : Lib.TabIs Tryd.prog w "unicode.properties" .u8 Lib.propertiesTab) (hV : RVar 4 upperT w) : ∀ w', Below w.heap.size w w' → Fs.Ups isUpperU w' := by
  intro w' hb r hlo hhi
  exact Any.unicode_IsUpper_all lays201 (by kernel_rfl) r w' hlo hhi (TabIs_below (g := 3) (by kernel_rfl) htab hb) (RVar_below hV hb)

theorem ups_ascii (c : Int) (h0 : 0 ≤ c) (h1 : c < 128) : isUpperU c = Sp.up c := by
  have hl : latin1 c = true := by unfold latin1; rw [decide_eq_true_eq]; omega
  unfold isUpperU
  rw [if_pos hl]
  unfold isUpperL Sp.up
  rw [Bool.eq_iff_iff, decide_eq_true_eq, Bool.and_eq_true, decide_eq_true_eq, decide_eq_true_eq]
  omega

set_option maxRecDepth 100000 in
/-- FROM THE LISTED VARIABLES TO WHAT THE WALKS ASK. -/
theorem of_laid {W : World} (h : laidMetH Tryd.prog Rows.fnFirstRow.laid W) : ∀ w', Below W.heap.size W w' → Fs.Ups isUpperU w' := by
  rw [MakeChecks.laidMetH_plain _ _ _ (by kernel_rfl)] at h
  have hg : Tryd.prog.globalNamed "unicode.properties" = some 3 := by kernel_rfl
  have hgt : (Tryd.prog.globals[3]?).map (·.type) = some 30 := by kernel_rfl
  have c5 : Tryd.prog.cellsOf 5 = 1 := by kernel_rfl
  have c30 : Tryd.prog.cellsOf 30 = 256 := by kernel_rfl
  have htab : Lib.TabIs Tryd.prog W "unicode.properties" .u8 Lib.propertiesTab := Lib.tabIs_of_head hg hgt Tryd.underlying30 Tryd.underlying5 c5 c30 h
  have hr : VarReads Tryd.prog W "unicode.Upper" Pinned.upper := Lib.laidMet.reads h (.tail _ (.head _))
  rw [Pinned.upper_eq] at hr
  have hV : RVar 4 upperT W := rvar_of_reads { lays201 with } xU (by kernel_rfl) (by kernel_rfl) hr
  exact ups W htab hV
end Go.Proofs.YtpdgdkmcdbfaiaaDoor.Up
