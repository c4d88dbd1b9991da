/-
  THE WALKS for FnPredeclared: what spec.Predeclared and gosynopsis.IsPredeclared come to, for every string; conditions: the three package-level maps' look-ups are hypotheses.
-/
import Derived.Test.YtpdgdkmcdbfaiaaDoorRows
import Derived.WalkKit
import Derived.WalkSpells
import Derived.WalkLawsBesides
import Derived.Lib.Hide
namespace Go.Proofs.YtpdgdkmcdbfaiaaDoor.Pre
open Go.RowKit

def keys : List ByteArray := [⟨#[97, 110, 121]⟩, ⟨#[98, 111, 111, 108]⟩, ⟨#[98, 121, 116, 101]⟩, ⟨#[99, 111, 109, 112, 97, 114, 97, 98, 108, 101]⟩, ⟨#[99, 111, 109, 112, 108, 101, 120, 54, 52]⟩, ⟨#[99, 111, 109, 112, 108, 101, 120, 49, 50, 56]⟩, ⟨#[101, 114, 114, 111, 114]⟩, ⟨#[102, 108, 111, 97, 116, 51, 50]⟩, ⟨#[102, 108, 111, 97, 116, 54, 52]⟩, ⟨#[105, 110, 116]⟩, ⟨#[105, 110, 116, 56]⟩, ⟨#[105, 110, 116, 49, 54]⟩, ⟨#[105, 110, 116, 51, 50]⟩, ⟨#[105, 110, 116, 54, 52]⟩, ⟨#[114, 117, 110, 101]⟩, ⟨#[115, 116, 114, 105, 110, 103]⟩, ⟨#[117, 105, 110, 116]⟩, ⟨#[117, 105, 110, 116, 56]⟩, ⟨#[117, 105, 110, 116, 49, 54]⟩, ⟨#[117, 105, 110, 116, 51, 50]⟩, ⟨#[117, 105, 110, 116, 54, 52]⟩, ⟨#[117, 105, 110, 116, 112, 116, 114]⟩, ⟨#[116, 114, 117, 101]⟩, ⟨#[102, 97, 108, 115, 101]⟩, ⟨#[105, 111, 116, 97]⟩, ⟨#[110, 105, 108]⟩, ⟨#[97, 112, 112, 101, 110, 100]⟩, ⟨#[99, 97, 112]⟩, ⟨#[99, 108, 101, 97, 114]⟩, ⟨#[99, 108, 111, 115, 101]⟩, ⟨#[99, 111, 109, 112, 108, 101, 120]⟩, ⟨#[99, 111, 112, 121]⟩, ⟨#[100, 101, 108, 101, 116, 101]⟩, ⟨#[105, 109, 97, 103]⟩, ⟨#[108, 101, 110]⟩, ⟨#[109, 97, 107, 101]⟩, ⟨#[109, 97, 120]⟩, ⟨#[109, 105, 110]⟩, ⟨#[110, 101, 119]⟩, ⟨#[112, 97, 110, 105, 99]⟩, ⟨#[112, 114, 105, 110, 116]⟩, ⟨#[112, 114, 105, 110, 116, 108, 110]⟩, ⟨#[114, 101, 97, 108]⟩, ⟨#[114, 101, 99, 111, 118, 101, 114]⟩]
def keysArr : Array Value := (keys.map Value.string).toArray

theorem keys_len : keys.length = 44 := by decide
theorem keysArr_get (j : Nat) : keysArr[j]? = (keys[j]?).map Value.string := by simp [keysArr]

/-- has: whether a string is one of the first k keys. -/
def hasK (k : Nat) (s : ByteArray) : Bool := (keys.take k).any fun x => s.toList == x.toList

theorem hasK_succ (k : Nat) (s x : ByteArray) (h : keys[k]? = some x) : hasK (k + 1) s = (hasK k s || (s.toList == x.toList)) := by
  unfold hasK
  rw [List.take_add_one, h]
  simp [List.any_append]

theorem hasK_mono (k : Nat) (s : ByteArray) (h : hasK k s = true) (hk : k ≤ 44) : hasK 44 s = true := by
  unfold hasK at *
  obtain ⟨x, hx, e⟩ := List.any_eq_true.1 h
  refine List.any_eq_true.2 ⟨x, ?_, e⟩
  have : (keys.take k) = (keys.take 44).take k := by rw [List.take_take, Nat.min_eq_left hk]
  rw [this] at hx
  exact List.mem_of_mem_take hx

theorem ret_bool {a b : Bool} (h : a = b) : Ending.returned (.bool a) = .returned (.bool b) := by rw [h]

set_option maxHeartbeats 1000000 in
set_option maxRecDepth 100000 in
theorem spec_any (s : ByteArray) (w : World) :
    Calls Tryd.prog 8 #[.string s] w fun e w' => e = .returned (.bool (hasK 44 s)) ∧ Below w.heap.size w w' := by
  go_enter Tryd.func8, Tryd.ntmps8
  go_wp2
  go_loopw [7] (fun i wr => ∃ k : Nat, k ≤ 44 ∧ i = .int .i64 k ∧ hasK k s = false ∧ (∀ j : Nat, wr.cell? ⟨w.heap.size, j, none⟩ = (keys[j]?).map Value.string) ∧ Below w.heap.size w wr) (fun i _ => 44 - (intOf i).toNat)
  case atStart =>
    refine ⟨0, by omega, rfl, rfl, fun j => ?_, (Below.refl _ _).alloc (Nat.le_refl _) _⟩
    rw [World.cell?_alloc_new, ← keysArr_get]
    rfl
  case round =>
    obtain ⟨k, hk, rfl, hno, hcs, hb⟩ := hrel
    by_cases hlt : k < 44
    · obtain ⟨x, hx⟩ : ∃ x, keys[k]? = some x := ⟨_, List.getElem?_eq_getElem (by rw [keys_len]; exact hlt)⟩
      have hcell : wr.cell? ⟨w.heap.size, k, none⟩ = some (.string x) := by rw [hcs, hx]; rfl
      have hsu := hasK_succ k s x hx
      rw [hno, Bool.false_or] at hsu
      have HC := Lib.hid hcs
      have HN := Lib.hid hno
      have HX := Lib.hid hx
      clear hcs hno hx
      cases hq : (s.toList == x.toList) with
      | true =>
        rw [hq] at hsu
        have HS := Lib.hid hsu
        clear hsu
        go_wp2
        go_ret
        exact ⟨ret_bool (hasK_mono _ _ HS.out (by omega)).symm, hb⟩
      | false =>
        rw [hq] at hsu
        have HS := Lib.hid hsu
        clear hsu
        go_wp2
        go_roundw
        case rel => exact ⟨k + 1, by omega, by go_num, HS.out, HC.out, hb⟩
        case measure => simp [intOf]; omega
    · obtain rfl : k = 44 := by omega
      have HC := Lib.hid hcs
      have HN := Lib.hid hno
      clear hcs hno
      go_wp2
      go_ret
      exact ⟨ret_bool HN.out.symm, hb⟩

/-- gosynopsis.IsPredeclared: the three look-ups, whatever they answer. -/
theorem is_any (s : ByteArray) (w : World) (b0 b1 b2 : Nat) (x0 x1 x2 : Bool)
    (hc0 : w.cell? ⟨0, 0, none⟩ = some (.map (some b0))) (hc1 : w.cell? ⟨1, 0, none⟩ = some (.map (some b1))) (hc2 : w.cell? ⟨2, 0, none⟩ = some (.map (some b2)))
    (hl0 : (Instr.lookup 26 (.map (some b0)) (.string s) false).run Tryd.prog w = .ok (.bool x0) w)
    (hl1 : (Instr.lookup 26 (.map (some b1)) (.string s) false).run Tryd.prog w = .ok (.bool x1) w)
    (hl2 : (Instr.lookup 26 (.map (some b2)) (.string s) false).run Tryd.prog w = .ok (.bool x2) w) :
    Calls Tryd.prog 12 #[.string s] w fun e w' => e = .returned (.bool (x0 || x1 || x2)) ∧ w = w' := by
  cases x0 <;> cases x1 <;> cases x2
  all_goals
    go_enter Tryd.func12, Tryd.ntmps12
    go_wp2
    go_ret
    exact ⟨rfl, rfl⟩

theorem impl_any (s : ByteArray) (w : World) (b0 b1 b2 : Nat) (x0 x1 x2 : Bool)
    (hc0 : w.cell? ⟨0, 0, none⟩ = some (.map (some b0))) (hc1 : w.cell? ⟨1, 0, none⟩ = some (.map (some b1))) (hc2 : w.cell? ⟨2, 0, none⟩ = some (.map (some b2)))
    (hl0 : (Instr.lookup 26 (.map (some b0)) (.string s) false).run Tryd.prog w = .ok (.bool x0) w)
    (hl1 : (Instr.lookup 26 (.map (some b1)) (.string s) false).run Tryd.prog w = .ok (.bool x1) w)
    (hl2 : (Instr.lookup 26 (.map (some b2)) (.string s) false).run Tryd.prog w = .ok (.bool x2) w) :
    Calls Tryd.prog 7 #[.string s] w fun e w' => e = .returned (.bool (x0 || x1 || x2)) ∧ w = w' := by
  have c := is_any s w b0 b1 b2 x0 x1 x2 hc0 hc1 hc2 hl0 hl1 hl2
  clear hc0 hc1 hc2 hl0 hl1 hl2
  go_enter Tryd.func7, Tryd.ntmps7
  go_wp2_with (go_at_call 12; refine c.mono ?_; rintro e w' ⟨rfl, rfl⟩)
  go_ret
  exact ⟨rfl, rfl⟩

theorem hasK_data (k : Nat) (s : ByteArray) : hasK k s = (keys.take k).any fun x => s.data.toList == x.data.toList := by
  simp only [hasK, ByteArray.toList_eq]

/-- What the condition gives: in every later world the three look-ups answer p. -/
def Looks (p : ByteArray → Bool) (w : World) : Prop := ∀ s : ByteArray, s.size ≤ maxLen → Calls Tryd.prog 7 #[.string s] w fun e w' => e = .returned (.bool (p s)) ∧ w = w'

theorem law_any (p : ByteArray → Bool) (s : ByteArray) (w : World) (hs : s.size ≤ maxLen) (hp : ∀ s, p s = hasK 44 s) (hL : ∀ w', Below w.heap.size w w' → Looks p w') :
    Calls Tryd.prog 3 #[.string s] w fun e w' => e = .returned (.bool true) ∧ Below w.heap.size w w' := by
  have c1 := hL w (Below.refl _ _) s hs
  have c2 := spec_any s w
  have c3 := fun w' h => hL w' h ⟨#[108, 101, 110]⟩ (by decide)
  have hk : p ⟨#[108, 101, 110]⟩ = true := by rw [hp, hasK_data]; decide
  have hps := hp s
  unfold maxLen at hs
  have HP := Lib.hid hps
  have HK := Lib.hid hk
  have HL := Lib.hid hL
  have H1 := Lib.hid c1
  have H2 := Lib.hid c2
  have H3 := Lib.hid c3
  clear hp hL c1 c2 c3 hps hk
  by_cases hbig : (s.size : Int) ≤ 2147483647
  · go_enter Tryd.func3, Tryd.ntmps3
    go_wp2_with fail
    refine H1.out.mono ?_
    rintro e w' ⟨rfl, rfl⟩
    rw [HP.out]
    generalize hasK 44 s = b at *
    go_wp2_with fail
    refine H2.out.mono ?_
    rintro e w1 ⟨rfl, hb1⟩
    cases b
    · go_wp2_with fail
      refine (H3.out _ hb1).mono ?_
      rintro e w' ⟨rfl, rfl⟩
      rw [HK.out]
      go_wp2
      go_ret
      exact ⟨rfl, hb1⟩
    · go_wp2_with fail
      refine (H3.out _ hb1).mono ?_
      rintro e w' ⟨rfl, rfl⟩
      rw [HK.out]
      go_wp2
      go_ret
      exact ⟨rfl, hb1⟩
  · go_enter Tryd.func3, Tryd.ntmps3
    go_wp2
    go_ret
    exact ⟨rfl, Below.refl _ _⟩
end Go.Proofs.YtpdgdkmcdbfaiaaDoor.Pre
