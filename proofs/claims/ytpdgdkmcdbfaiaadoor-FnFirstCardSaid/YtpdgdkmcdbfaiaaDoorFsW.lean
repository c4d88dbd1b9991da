/-
  THE WALK of gosynopsis.firstSentence: for every string (valid UTF-8 or not) it returns the beginning of the string that 'fsCut' measures; conditions: unicode.IsUpper answers U in this world and in every later one.
-/
import Derived.Test.YtpdgdkmcdbfaiaaDoorRows
import Derived.WalkKit
import Derived.WalkSpells
import Derived.WalkLawsBesides
import Derived.Lib.Hide
import Derived.Lib.OthersKept
import Derived.Laws.RangeAny
namespace Go.Proofs.YtpdgdkmcdbfaiaaDoor.Fs
open Go.RowKit

theorem ret_str {a b : ByteArray} (h : a = b) : Ending.returned (.string a) = .returned (.string b) := by rw [h]
theorem width_pos (s : ByteArray) (pos : Nat) (h : pos < s.size) : 1 ≤ (Utf8.decode s pos).2 := by
  by_cases ha : (s[pos]'h).toNat < 128
  · rw [decode_ascii s pos h ha]
    exact Nat.le_refl _
  · exact (decode_high s pos h (by omega)).2

/-- A tab, a carriage return and a line end count as a blank. -/
def norm (r : Int) : Int := if r = 10 ∨ r = 13 ∨ r = 9 then 32 else r

theorem norm_blank {r : Int} (h : norm r = 32) : r = 10 ∨ r = 13 ∨ r = 9 ∨ r = 32 := by
  unfold norm at h
  split at h
  · omega
  · omega

theorem norm_other {r : Int} (h : ¬ norm r = 32) : ¬ r = 10 ∧ ¬ r = 13 ∧ ¬ r = 9 ∧ ¬ r = 32 ∧ norm r = r := by
  unfold norm at *
  split at h
  · exact absurd rfl h
  · rename_i h'
    refine ⟨fun e => h' (Or.inl e), fun e => h' (Or.inr (Or.inl e)), fun e => h' (Or.inr (Or.inr e)), h, if_neg h'⟩

/-- Where the first sentence ends: with fuel, from a place on, the three runes before it given. -/
def fsCut (U : Int → Bool) (s : ByteArray) : Nat → Nat → Int → Int → Int → Nat
  | 0, _, _, _, _ => s.size
  | f + 1, pos, ppp, pp, p =>
    if pos < s.size then
      if norm ((Utf8.decode s pos).1 : Int) = 32 ∧ p = 46 ∧ (U pp = false ∨ U ppp = true) then pos
      else if p = 12290 ∨ p = 65294 then pos
      else fsCut U s f (pos + (Utf8.decode s pos).2) pp p (norm ((Utf8.decode s pos).1 : Int))
    else s.size

theorem fsCut_end (U : Int → Bool) (s : ByteArray) (f pos : Nat) (a b c : Int) (h : ¬ pos < s.size) : fsCut U s f pos a b c = s.size := by
  cases f with
  | zero => rfl
  | succ f => rw [fsCut, if_neg h]

theorem extract_all (s : ByteArray) : s.extract 0 s.size = s := by simp

/-- What unicode.IsUpper answers in a world. -/
def Ups (U : Int → Bool) (w : World) : Prop := ∀ r : Int, -2147483648 ≤ r → r ≤ 2147483647 → Calls Tryd.prog 17 #[.int .i32 r] w fun e w' => e = .returned (.bool (U r)) ∧ Below w.heap.size w w'

theorem ups_call {U : Int → Bool} {w : World} {r : Int} {b : Bool} (h : Ups U w) (h1 : -2147483648 ≤ r) (h2 : r ≤ 2147483647) (hb : U r = b) : Calls Tryd.prog 17 #[.int .i32 r] w fun e w' => e = .returned (.bool b) ∧ Below w.heap.size w w' := by
  subst hb; exact h r h1 h2

set_option maxHeartbeats 4000000 in
set_option maxRecDepth 1000000 in
theorem fs_any (U : Int → Bool) (s : ByteArray) (w : World) (_hs : s.size ≤ 4611686018427387904) (hU : ∀ w', Below w.heap.size w w' → Ups U w') :
    Calls Tryd.prog 15 #[.string s] w fun e w' => e = .returned (.string (s.extract 0 (fsCut U s s.size 0 0 0 0))) ∧ Below w.heap.size w w' := by
  have HU := Lib.hid hU
  clear hU
  go_enter Tryd.func15, Tryd.ntmps15
  go_wp2
  go_loopw [3, 4, 5] (fun v3 v4 v5 wr => ∃ (pos f : Nat) (ppp pp p : Int), v3 = .int .i32 ppp ∧ v4 = .int .i32 pp ∧ v5 = .int .i32 p ∧ -2147483648 ≤ ppp ∧ ppp ≤ 2147483647 ∧ -2147483648 ≤ pp ∧ pp ≤ 2147483647 ∧ -2147483648 ≤ p ∧ p ≤ 2147483647 ∧
    wr.heap[w.heap.size]? = some (.stringIter s pos) ∧ Below w.heap.size w wr ∧ Hid (fsCut U s f pos ppp pp p = fsCut U s s.size 0 0 0 0) ∧ s.size ≤ pos + f) (fun _ _ _ wr => s.size - wr.iterPos w.heap.size)
  case atStart =>
    refine ⟨0, s.size, 0, 0, 0, rfl, rfl, rfl, by omega, by omega, by omega, by omega, by omega, by omega, World.iter_heap w s 0, (Below.refl _ w).alloc (Nat.le_refl _) _, rfl, by omega⟩
  case round =>
    obtain ⟨pos, f, ppp, pp, p, rfl, rfl, rfl, b1, b2, b3, b4, b5, b6, hit, hbw, HC, hfu⟩ := hrel
    have hsz : w.heap.size < wr.heap.size := (Array.getElem?_eq_some_iff.1 hit).1
    by_cases hp : pos < s.size
    · have hnx : ∀ ty, (Instr.next (.pointer (some ⟨w.heap.size, 0, none⟩)) true ty).run Tryd.prog wr = _ := fun ty => Lib.run_next_any_at wr w.heap.size s pos ty hit hp
      have hwd := width_pos s pos hp
      have hd1 := decode_le s pos
      have hit2 := Lib.iterAt_heap wr w.heap.size s pos (pos + (Utf8.decode s pos).2) hit
      have hbw2 := Lib.below_iterAt hbw (k := w.heap.size) (by omega) s (pos + (Utf8.decode s pos).2)
      have hsz2 : w.heap.size < (wr.iterAt w.heap.size s (pos + (Utf8.decode s pos).2)).heap.size := by rw [Lib.iterAt_size]; omega
      obtain ⟨g, rfl⟩ : ∃ g, f = g + 1 := ⟨f - 1, by omega⟩
      obtain ⟨q0, hq0⟩ : ∃ q0 : Int, ((Utf8.decode s pos).1 : Int) = q0 := ⟨_, rfl⟩
      have hq1 : 0 ≤ q0 := by omega
      have hq2 : q0 ≤ 2147483647 := by omega
      have HK : Hid ((if norm q0 = 32 ∧ p = 46 ∧ (U pp = false ∨ U ppp = true) then pos else if p = 12290 ∨ p = 65294 then pos else fsCut U s g (pos + (Utf8.decode s pos).2) pp p (norm q0)) = fsCut U s s.size 0 0 0 0) := by
        have := HC.out
        rw [fsCut, if_pos hp, hq0] at this
        exact this
      clear HC
      rw [hq0] at hnx
      generalize (Utf8.decode s pos).2 = wd at *
      generalize wr.iterAt w.heap.size s (pos + wd) = wi at *
      have HIT := Lib.hid hit
      clear hq0 hd1 hit hbw hsz
      have hU2 := HU.out wi hbw2
      have hUp : ∀ b : Bool, U pp = b → Hid (Calls Tryd.prog 17 #[.int .i32 pp] wi fun e w' => e = .returned (.bool b) ∧ Below wi.heap.size wi w') := fun b hb => ups_call hU2 b3 b4 hb
      have hUq : ∀ b : Bool, U ppp = b → ∀ w3, Below wi.heap.size wi w3 → Hid (Calls Tryd.prog 17 #[.int .i32 ppp] w3 fun e w' => e = .returned (.bool b) ∧ Below w3.heap.size w3 w') := fun b hb w3 h3 => ups_call (HU.out w3 (hbw2.trans (h3.mono (by omega)))) b1 b2 hb
      clear hU2
      by_cases hq : norm q0 = 32
      · -- a blank (or what counts as one)
        rcases (show p = 46 ∨ p = 12290 ∨ p = 65294 ∨ (¬ p = 46 ∧ ¬ p = 12290 ∧ ¬ p = 65294) by omega) with rfl | rfl | rfl | ⟨m1, m2, m3⟩
        · cases hpp : U pp with
          | false =>
            have C1 := hUp _ hpp
            have HS : Hid (pos = fsCut U s s.size 0 0 0 0) := by have := HK.out; rwa [if_pos ⟨hq, rfl, Or.inl hpp⟩] at this
            clear HK hUp hUq hpp
            rcases norm_blank hq with rfl | rfl | rfl | rfl
            all_goals
              clear hq
              go_wp2_with (go_at_call 17; refine C1.out.mono ?_; rintro e w3 ⟨rfl, hb3⟩)
              go_ret
              exact ⟨ret_str (by rw [← HS.out]), hbw2.trans (hb3.mono (by omega))⟩
          | true =>
            have C1 := hUp _ hpp
            cases hppp : U ppp with
            | true =>
              have C2 := hUq _ hppp
              have HS : Hid (pos = fsCut U s s.size 0 0 0 0) := by have := HK.out; rwa [if_pos ⟨hq, rfl, Or.inr hppp⟩] at this
              clear HK hUp hUq hpp hppp
              rcases norm_blank hq with rfl | rfl | rfl | rfl
              all_goals
                clear hq
                go_wp2_with fail
                refine C1.out.mono ?_
                rintro e w3 ⟨rfl, hb3⟩
                go_wp2_with fail
                refine (C2 w3 hb3).out.mono ?_
                rintro e w4 ⟨rfl, hb4⟩
                go_wp2
                go_ret
                exact ⟨ret_str (by rw [← HS.out]), hbw2.trans ((hb3.mono (by omega)).trans (hb4.mono (by have := hb3.size; omega)))⟩
            | false =>
              have C2 := hUq _ hppp
              have HS : Hid (fsCut U s g (pos + wd) pp 46 32 = fsCut U s s.size 0 0 0 0) := by
                have := HK.out
                rwa [if_neg (by rw [hpp, hppp]; simp), if_neg (by omega), hq] at this
              clear HK hUp hUq hpp hppp
              rcases norm_blank hq with rfl | rfl | rfl | rfl
              all_goals
                clear hq
                go_wp2_with fail
                refine C1.out.mono ?_
                rintro e w3 ⟨rfl, hb3⟩
                go_wp2_with fail
                refine (C2 w3 hb3).out.mono ?_
                rintro e w4 ⟨rfl, hb4⟩
                go_wp2
                have hit4 : w4.heap[w.heap.size]? = some (.stringIter s (pos + wd)) := by rw [hb4.block _ (by have := hb3.size; omega), hb3.block _ (by omega)]; exact hit2
                go_roundw
                case rel => exact ⟨pos + wd, g, pp, 46, 32, rfl, rfl, rfl, b3, b4, by omega, by omega, by omega, by omega, hit4, hbw2.trans ((hb3.mono (by omega)).trans (hb4.mono (by have := hb3.size; omega))), HS, by omega⟩
                case measure => simp only [World.iterPos, hit4, HIT.out]; omega
        · -- after a full stop that is no ASCII one
          have HS : Hid (pos = fsCut U s s.size 0 0 0 0) := by have := HK.out; rwa [if_neg (by omega), if_pos (Or.inl rfl)] at this
          clear HK hUp hUq
          rcases norm_blank hq with rfl | rfl | rfl | rfl
          all_goals
            clear hq
            go_wp2
            go_ret
            exact ⟨ret_str (by rw [← HS.out]), hbw2⟩
        · have HS : Hid (pos = fsCut U s s.size 0 0 0 0) := by have := HK.out; rwa [if_neg (by omega), if_pos (Or.inr rfl)] at this
          clear HK hUp hUq
          rcases norm_blank hq with rfl | rfl | rfl | rfl
          all_goals
            clear hq
            go_wp2
            go_ret
            exact ⟨ret_str (by rw [← HS.out]), hbw2⟩
        · have HS : Hid (fsCut U s g (pos + wd) pp p 32 = fsCut U s s.size 0 0 0 0) := by have := HK.out; rwa [if_neg (by omega), if_neg (by omega), hq] at this
          have t1 : (p == 46) = false := by simpa using m1
          have t2 : (p == 12290) = false := by simpa using m2
          have t3 : (p == 65294) = false := by simpa using m3
          clear HK hUp hUq m1 m2 m3
          rcases norm_blank hq with rfl | rfl | rfl | rfl
          all_goals
            clear hq
            go_wp2
            go_roundw
            case rel => exact ⟨pos + wd, g, pp, p, 32, rfl, rfl, rfl, b3, b4, by omega, by omega, by omega, by omega, hit2, hbw2, HS, by omega⟩
            case measure => simp only [World.iterPos, hit2, HIT.out]; omega
      · -- another rune
        have hn := norm_other hq
        have n1 : (q0 == 10) = false := by simpa using hn.1
        have n2 : (q0 == 13) = false := by simpa using hn.2.1
        have n3 : (q0 == 9) = false := by simpa using hn.2.2.1
        have n4 : (q0 == 32) = false := by simpa using hn.2.2.2.1
        have hn5 := hn.2.2.2.2
        clear hn
        rcases (show p = 12290 ∨ p = 65294 ∨ (¬ p = 12290 ∧ ¬ p = 65294) by omega) with rfl | rfl | ⟨m2, m3⟩
        · have HS : Hid (pos = fsCut U s s.size 0 0 0 0) := by have := HK.out; rwa [if_neg (fun h => hq h.1), if_pos (Or.inl rfl)] at this
          clear HK hUp hUq hq hn5
          go_wp2
          go_ret
          exact ⟨ret_str (by rw [← HS.out]), hbw2⟩
        · have HS : Hid (pos = fsCut U s s.size 0 0 0 0) := by have := HK.out; rwa [if_neg (fun h => hq h.1), if_pos (Or.inr rfl)] at this
          clear HK hUp hUq hq hn5
          go_wp2
          go_ret
          exact ⟨ret_str (by rw [← HS.out]), hbw2⟩
        · have HS : Hid (fsCut U s g (pos + wd) pp p q0 = fsCut U s s.size 0 0 0 0) := by have := HK.out; rwa [if_neg (fun h => hq h.1), if_neg (by omega), hn5] at this
          have t2 : (p == 12290) = false := by simpa using m2
          have t3 : (p == 65294) = false := by simpa using m3
          clear HK hUp hUq hq hn5 m2 m3
          go_wp2
          go_roundw
          case rel => exact ⟨pos + wd, g, pp, p, q0, rfl, rfl, rfl, b3, b4, by omega, by omega, by omega, by omega, hit2, hbw2, HS, by omega⟩
          case measure => simp only [World.iterPos, hit2, HIT.out]; omega
    · have hnx : ∀ ty, (Instr.next (.pointer (some ⟨w.heap.size, 0, none⟩)) true ty).run Tryd.prog wr = _ := fun ty => Lib.run_next_end_at wr w.heap.size s pos ty hit hp
      go_wp2
      go_ret
      have := HC.out
      rw [fsCut_end _ _ _ _ _ _ _ hp] at this
      exact ⟨ret_str (by rw [← this, extract_all]), hbw⟩
end Go.Proofs.YtpdgdkmcdbfaiaaDoor.Fs
