/-
  THE WALKS of the reference's functions isUpper, Ends, FirstSentence, ASCII: what each returns for every string; no conditions but sizes.
-/
import Derived.Test.YtpdgdkmcdbfaiaaDoorRows
import Derived.WalkKit
import Derived.WalkSpells
import Derived.WalkLawsBesides
import Derived.Lib.Hide
namespace Go.Proofs.YtpdgdkmcdbfaiaaDoor.Sp
open Go.RowKit

theorem ret_bool {a b : Bool} (h : a = b) : Ending.returned (.bool a) = .returned (.bool b) := by rw [h]
theorem ret_str {a b : ByteArray} (h : a = b) : Ending.returned (.string a) = .returned (.string b) := by rw [h]

/-- An upper case letter of ASCII. -/
def up (c : Int) : Bool := decide (65 ≤ c) && decide (c ≤ 90)
/-- A byte of a string, 0 beyond its end. -/
def bt (s : ByteArray) (i : Nat) : Int := ((s.data.toList.getD i 0).toNat : Int)
theorem bt_of (s : ByteArray) (i : Nat) (h : i < s.size) : ((s[i]'h).toNat : Int) = bt s i := by
  unfold bt
  have e : s.data.toList.getD i 0 = s[i]'h := by
    rw [List.getD, List.getElem?_eq_getElem (by simpa using h)]
    rfl
  rw [e]
theorem bt_lo (s : ByteArray) (i : Nat) : 0 ≤ bt s i := by unfold bt; omega
theorem bt_hi (s : ByteArray) (i : Nat) : bt s i ≤ 255 := by
  unfold bt
  have := (s.data.toList.getD i 0).toNat_lt
  omega

theorem isUpper_yes (c : Int) (w : World) (_h0 : 0 ≤ c) (_h1 : c ≤ 255) (h : up c = true) :
    Calls Tryd.prog 16 #[.int .u8 c] w fun e w' => e = .returned (.bool true) ∧ w = w' := by
  unfold up at h
  rw [Bool.and_eq_true, decide_eq_true_eq, decide_eq_true_eq] at h
  obtain ⟨a, b⟩ := h
  go_enter Tryd.func16, Tryd.ntmps16
  go_wp2
  go_ret
  exact ⟨rfl, rfl⟩
theorem isUpper_no (c : Int) (w : World) (_h0 : 0 ≤ c) (_h1 : c ≤ 255) (h : up c = false) :
    Calls Tryd.prog 16 #[.int .u8 c] w fun e w' => e = .returned (.bool false) ∧ w = w' := by
  have h : c < 65 ∨ 90 < c ∧ 65 ≤ c := by
    unfold up at h
    rw [Bool.and_eq_false_iff, decide_eq_false_iff_not, decide_eq_false_iff_not] at h
    omega
  rcases h with a | ⟨a, b⟩
  · go_enter Tryd.func16, Tryd.ntmps16
    go_wp2
    go_ret
    exact ⟨rfl, rfl⟩
  · have db : decide (c ≤ 90) = false := by rw [decide_eq_false_iff_not]; omega
    go_enter Tryd.func16, Tryd.ntmps16
    go_wp2
    go_ret
    exact ⟨rfl, rfl⟩
theorem isUpper_any (c : Int) (b : Bool) (w : World) (h0 : 0 ≤ c) (h1 : c ≤ 255) (h : up c = b) :
    Calls Tryd.prog 16 #[.int .u8 c] w fun e w' => e = .returned (.bool b) ∧ w = w' := by
  cases b
  · exact isUpper_no c w h0 h1 h
  · exact isUpper_yes c w h0 h1 h

/-- A word that ends a sentence. -/
def ends (s : ByteArray) : Bool := decide (1 ≤ s.size) && (bt s (s.size - 1) == 46) && !(decide (2 ≤ s.size) && up (bt s (s.size - 2)) && (s.size == 2 || !up (bt s (s.size - 3))))

set_option maxHeartbeats 1000000 in
set_option maxRecDepth 100000 in
theorem ends_any (s : ByteArray) (w : World) (hs : s.size ≤ 4611686018427387904) :
    Calls Tryd.prog 14 #[.string s] w fun e w' => e = .returned (.bool (ends s)) ∧ w = w' := by
  by_cases g1 : 1 ≤ s.size
  · have e1 := bt_of s (s.size - 1) (by omega)
    obtain ⟨c1, hc1⟩ : ∃ c1, bt s (s.size - 1) = c1 := ⟨_, rfl⟩
    have l1 := bt_lo s (s.size - 1)
    have k1 := bt_hi s (s.size - 1)
    rw [hc1] at e1 l1 k1
    by_cases h46 : c1 = 46
    · subst h46
      by_cases g2 : 2 ≤ s.size
      · have e2 := bt_of s (s.size - 2) (by omega)
        obtain ⟨c2, hc2⟩ : ∃ c2, bt s (s.size - 2) = c2 := ⟨_, rfl⟩
        have l2 := bt_lo s (s.size - 2)
        have k2 := bt_hi s (s.size - 2)
        rw [hc2] at e2 l2 k2
        obtain ⟨u2, hu2⟩ : ∃ u2, up c2 = u2 := ⟨_, rfl⟩
        by_cases g3 : 3 ≤ s.size
        · have e3 := bt_of s (s.size - 3) (by omega)
          obtain ⟨c3, hc3⟩ : ∃ c3, bt s (s.size - 3) = c3 := ⟨_, rfl⟩
          have l3 := bt_lo s (s.size - 3)
          have k3 := bt_hi s (s.size - 3)
          rw [hc3] at e3 l3 k3
          obtain ⟨u3, hu3⟩ : ∃ u3, up c3 = u3 := ⟨_, rfl⟩
          have HE : Hid (ends s = !(u2 && !u3)) := by
            have z2 : (s.size == 2) = false := by rw [beq_eq_false_iff_ne]; omega
            show ends s = _
            unfold ends
            rw [hc1, hc2, hc3, hu2, hu3, z2]
            simp [g1, g2]
          have C2 := Lib.hid (isUpper_any c2 u2 w l2 k2 hu2)
          have C3 := Lib.hid (isUpper_any c3 u3 w l3 k3 hu3)
          have z2 : ((s.size : Int) == 2) = false := by rw [beq_eq_false_iff_ne]; omega
          have z0 : ((s.size : Int) == 0) = false := by rw [beq_eq_false_iff_ne]; omega
          clear hc1 hc2 hc3 hu2 hu3
          cases u2
          · go_enter Tryd.func14, Tryd.ntmps14
            go_wp2_with fail
            refine C2.out.mono ?_
            rintro e w' ⟨rfl, rfl⟩
            go_wp2
            go_ret
            exact ⟨ret_bool (by rw [HE.out]; rfl), rfl⟩
          · cases u3
            all_goals
              go_enter Tryd.func14, Tryd.ntmps14
              go_wp2_with fail
              refine C2.out.mono ?_
              rintro e w' ⟨rfl, rfl⟩
              go_wp2_with fail
              refine C3.out.mono ?_
              rintro e w' ⟨rfl, rfl⟩
              go_wp2
              go_ret
              exact ⟨ret_bool (by rw [HE.out]; rfl), rfl⟩
        · have HE : Hid (ends s = !u2) := by
            have z2 : (s.size == 2) = true := by rw [beq_iff_eq]; omega
            show ends s = _
            unfold ends
            rw [hc1, hc2, hu2, z2]
            simp [g1, g2]
          have C2 := Lib.hid (isUpper_any c2 u2 w l2 k2 hu2)
          have z2 : ((s.size : Int) == 2) = true := by rw [beq_iff_eq]; omega
          have z0 : ((s.size : Int) == 0) = false := by rw [beq_eq_false_iff_ne]; omega
          clear hc1 hc2 hu2
          cases u2
          all_goals
            go_enter Tryd.func14, Tryd.ntmps14
            go_wp2_with fail
            refine C2.out.mono ?_
            rintro e w' ⟨rfl, rfl⟩
            go_wp2
            go_ret
            exact ⟨ret_bool (by rw [HE.out]; rfl), rfl⟩
      · have HE : Hid (ends s = true) := by
          show ends s = _
          unfold ends
          rw [hc1]
          simp [g1, g2]
        have z0 : ((s.size : Int) == 0) = false := by rw [beq_eq_false_iff_ne]; omega
        clear hc1
        go_enter Tryd.func14, Tryd.ntmps14
        go_wp2
        go_ret
        exact ⟨ret_bool (by rw [HE.out]), rfl⟩
    · have HE : Hid (ends s = false) := by
        have z : (c1 == 46) = false := by rw [beq_eq_false_iff_ne]; omega
        show ends s = _
        unfold ends
        rw [hc1, z]
        simp
      have z0 : ((s.size : Int) == 0) = false := by rw [beq_eq_false_iff_ne]; omega
      have z1 : (c1 != 46) = true := by rw [bne_iff_ne]; omega
      clear hc1 h46
      go_enter Tryd.func14, Tryd.ntmps14
      go_wp2
      go_ret
      exact ⟨ret_bool (by rw [HE.out]), rfl⟩
  · have HE : Hid (ends s = false) := by
      show ends s = _
      unfold ends
      simp [g1]
    have z0 : ((s.size : Int) == 0) = true := by rw [beq_iff_eq]; omega
    go_enter Tryd.func14, Tryd.ntmps14
    go_wp2
    go_ret
    exact ⟨ret_bool (by rw [HE.out]), rfl⟩

/-- What counts as a space. -/
def isSp (c : Int) : Bool := c == 32 || c == 10 || c == 13 || c == 9

/-- Where the reference's first sentence ends, from place i on. -/
def spFrom (s : ByteArray) : Nat → Nat → Nat
  | 0, _ => s.size
  | f + 1, i => if i < s.size then (if isSp (bt s i) = true ∧ ends (s.extract 0 i) = true then i else spFrom s f (i + 1)) else s.size
theorem spFrom_end (s : ByteArray) (f i : Nat) (h : ¬ i < s.size) : spFrom s f i = s.size := by
  cases f with
  | zero => rfl
  | succ f => rw [spFrom, if_neg h]
theorem extract_all (s : ByteArray) : s.extract 0 s.size = s := by simp
theorem ends_call (s : ByteArray) (b : Bool) (w : World) (hs : s.size ≤ 4611686018427387904) (hb : ends s = b) : Calls Tryd.prog 14 #[.string s] w fun e w' => e = .returned (.bool b) ∧ w = w' := by
  subst hb; exact ends_any s w hs
theorem isSp_cases {c : Int} (h : isSp c = true) : c = 32 ∨ c = 10 ∨ c = 13 ∨ c = 9 := by
  unfold isSp at h
  simp only [Bool.or_eq_true, beq_iff_eq] at h
  omega
theorem isSp_not {c : Int} (h : isSp c = false) : (c == 32) = false ∧ (c == 10) = false ∧ (c == 13) = false ∧ (c == 9) = false := by
  unfold isSp at h
  simp only [Bool.or_eq_false_iff] at h
  exact ⟨h.1.1.1, h.1.1.2, h.1.2, h.2⟩

set_option maxHeartbeats 1000000 in
set_option maxRecDepth 100000 in
theorem first_any (s : ByteArray) (w : World) (hs : s.size ≤ 4611686018427387903) :
    Calls Tryd.prog 11 #[.string s] w fun e w' => e = .returned (.string (s.extract 0 (spFrom s s.size 1))) ∧ w = w' := by
  go_enter Tryd.func11, Tryd.ntmps11
  go_wp2
  go_loop [3] (fun i => ∃ k f : Nat, 1 ≤ k ∧ k ≤ s.size + 1 ∧ i = .int .i64 k ∧ Hid (spFrom s f k = spFrom s s.size 1) ∧ s.size + 1 ≤ k + f) (fun i => s.size + 1 - (intOf i).toNat)
  case atStart => exact ⟨1, s.size, by omega, by omega, rfl, rfl, by omega⟩
  case round =>
    obtain ⟨k, f, hk1, hk2, rfl, HF, hkf⟩ := hrel
    by_cases hlt : k < s.size
    · obtain ⟨g, rfl⟩ : ∃ g, f = g + 1 := ⟨f - 1, by omega⟩
      have e1 := bt_of s k hlt
      obtain ⟨c, hc⟩ : ∃ c, bt s k = c := ⟨_, rfl⟩
      have l1 := bt_lo s k
      have k1 := bt_hi s k
      rw [hc] at e1 l1 k1
      obtain ⟨b, hb⟩ : ∃ b, ends (s.extract 0 k) = b := ⟨_, rfl⟩
      have HS : Hid ((if isSp c = true ∧ b = true then k else spFrom s g (k + 1)) = spFrom s s.size 1) := by
        have := HF.out
        rw [spFrom, if_pos hlt, hc, hb] at this
        exact this
      have hsz : (s.extract 0 k).size ≤ 4611686018427387904 := by rw [ByteArray.size_extract]; omega
      have C := Lib.hid (ends_call (s.extract 0 k) b w hsz hb)
      clear HF hc hb
      cases hsp : isSp c with
      | true =>
        cases b with
        | true =>
          have HS2 : Hid (k = spFrom s s.size 1) := by have := HS.out; rwa [if_pos ⟨hsp, rfl⟩] at this
          clear HS
          rcases isSp_cases hsp with rfl | rfl | rfl | rfl
          all_goals
            clear hsp
            go_wp2_with fail
            refine C.out.mono ?_
            rintro e w' ⟨rfl, rfl⟩
            go_wp2
            go_ret
            exact ⟨ret_str (by rw [← HS2.out]), rfl⟩
        | false =>
          have HS2 : Hid (spFrom s g (k + 1) = spFrom s s.size 1) := by have := HS.out; rwa [if_neg (by simp)] at this
          clear HS
          rcases isSp_cases hsp with rfl | rfl | rfl | rfl
          all_goals
            clear hsp
            go_wp2_with fail
            refine C.out.mono ?_
            rintro e w' ⟨rfl, rfl⟩
            go_wp2
            go_round
            case rel => exact ⟨k + 1, g, by omega, by omega, by go_num, HS2, by omega⟩
            case measure => simp [intOf]; omega
      | false =>
        have HS2 : Hid (spFrom s g (k + 1) = spFrom s s.size 1) := by have := HS.out; rwa [if_neg (by rw [hsp]; simp)] at this
        obtain ⟨t1, t2, t3, t4⟩ := isSp_not hsp
        clear HS hsp C
        go_wp2
        go_round
        case rel => exact ⟨k + 1, g, by omega, by omega, by go_num, HS2, by omega⟩
        case measure => simp [intOf]; omega
    · go_wp2
      go_ret
      have := HF.out
      rw [spFrom_end _ _ _ hlt] at this
      exact ⟨ret_str (by rw [← this, extract_all]), rfl⟩

/-- Which bytes spec.ASCII keeps. -/
def keep (c : Bool) (b : UInt8) : Bool := decide (b.toNat < 128) && (c || decide (32 ≤ b.toNat))
def asc (c : Bool) (l : List UInt8) : List UInt8 := l.filter (keep c)
theorem take_snoc (s : ByteArray) (k : Nat) (h : k < s.size) : s.data.toList.take (k + 1) = s.data.toList.take k ++ [s[k]'h] := by
  rw [List.take_succ_eq_append_getElem (by simpa using h)]; rfl
theorem asc_snoc (c : Bool) (s : ByteArray) (k : Nat) (h : k < s.size) : asc c (s.data.toList.take (k + 1)) = asc c (s.data.toList.take k) ++ (if keep c (s[k]'h) then [s[k]'h] else []) := by
  unfold asc
  rw [take_snoc s k h, List.filter_append]
  congr 1
  by_cases hk : keep c (s[k]'h) = true
  · rw [if_pos hk]; simp [hk]
  · rw [if_neg hk]; simp [hk]
theorem data_append (a b : ByteArray) : (a ++ b).data.toList = a.data.toList ++ b.data.toList := by simp [ByteArray.data_append]
theorem data_one (s : ByteArray) (k : Nat) (h : k < s.size) : (s.extract k (k + 1)).data.toList = [s[k]'h] := by
  apply List.ext_getElem?
  intro i
  simp only [ByteArray.data_extract, Array.toList_extract, List.extract]
  rw [List.getElem?_take]
  by_cases hi : i < k + 1 - k
  · rw [if_pos hi, List.getElem?_drop]
    obtain rfl : i = 0 := by omega
    rw [Nat.add_zero, List.getElem?_eq_getElem (by simpa using h)]
    rfl
  · rw [if_neg hi]
    have : 1 ≤ i := by omega
    simp [List.getElem?_eq_none, this]

set_option maxHeartbeats 1000000 in
set_option maxRecDepth 100000 in
theorem ascii_any (s : ByteArray) (c : Bool) (w : World) (hs : s.size ≤ 4611686018427387903) :
    Calls Tryd.prog 9 #[.string s, .bool c] w fun e w' => e = .returned (.string ⟨(asc c s.data.toList).toArray⟩) ∧ w = w' := by
  go_enter Tryd.func9, Tryd.ntmps9
  go_wp2
  go_loop [5, 9] (fun o i => ∃ (k : Nat) (t : ByteArray), k ≤ s.size ∧ i = .int .i64 k ∧ o = .string t ∧ t.size ≤ k ∧ Hid (t.data.toList = asc c (s.data.toList.take k))) (fun _ i => s.size - (intOf i).toNat)
  case atStart => exact ⟨0, ByteArray.empty, by omega, rfl, rfl, by simp, rfl⟩
  case round =>
    obtain ⟨k, t, hk, rfl, rfl, ht, HT⟩ := hrel
    by_cases hlt : k < s.size
    · have e1 := bt_of s k hlt
      have hsn := asc_snoc c s k hlt
      have hon := data_one s k hlt
      have hos : (s.extract k (k + 1)).size = 1 := by rw [ByteArray.size_extract]; omega
      obtain ⟨x, hx⟩ : ∃ x, bt s k = x := ⟨_, rfl⟩
      have l1 := bt_lo s k
      have k1 := bt_hi s k
      rw [hx] at e1 l1 k1
      have HA : Hid (asc c (s.data.toList.take (k + 1)) = t.data.toList ++ (if decide (x < 128) && (c || decide (32 ≤ x)) then (s.extract k (k + 1)).data.toList else [])) := by
        show _ = _
        rw [hsn, ← HT.out, hon]
        have : keep c s[k] = (decide (x < 128) && (c || decide (32 ≤ x))) := by
          unfold keep
          congr 1
          · rw [decide_eq_decide]; omega
          · congr 1; rw [decide_eq_decide]; omega
        rw [this]
      have HO := Lib.hid hos
      have hle : (s.extract k (k + 1)).size ≤ 1 := by omega
      clear HT hsn hon hx hos
      by_cases a : x < 128
      · have da : decide (x < 128) = true := by simpa using a
        have yes : (c || decide (32 ≤ x)) = true → Hid ((t ++ s.extract k (k + 1)).data.toList = asc c (s.data.toList.take (k + 1))) := fun h => by
          show _ = _
          have := HA.out
          rw [da, h] at this
          rw [this, data_append]; rfl
        have no : (c || decide (32 ≤ x)) = false → Hid (t.data.toList = asc c (s.data.toList.take (k + 1))) := fun h => by
          show _ = _
          have := HA.out
          rw [da, h] at this
          rw [this]; simp
        clear HA da
        cases c with
        | true =>
          have Y := yes rfl
          clear yes no
          go_wp2
          go_round
          case rel => exact ⟨k + 1, t ++ s.extract k (k + 1), by omega, by go_num, rfl, by rw [ByteArray.size_append, HO.out]; omega, Y⟩
          case measure => simp [intOf]; omega
        | false =>
          by_cases b : 32 ≤ x
          · have Y := yes (by simpa using b)
            have db : decide (x ≥ 32) = true := by simpa using b
            clear yes no
            go_wp2
            go_round
            case rel => exact ⟨k + 1, t ++ s.extract k (k + 1), by omega, by go_num, rfl, by rw [ByteArray.size_append, HO.out]; omega, Y⟩
            case measure => simp [intOf]; omega
          · have Y := no (by simpa using b)
            have db : decide (x ≥ 32) = false := by simpa using b
            clear yes no
            go_wp2
            go_round
            case rel => exact ⟨k + 1, t, by omega, by go_num, rfl, by omega, Y⟩
            case measure => simp [intOf]; omega
      · have Y : Hid (t.data.toList = asc c (s.data.toList.take (k + 1))) := by
          have da : decide (x < 128) = false := by simpa using a
          have := HA.out
          rw [da] at this
          show _ = _
          rw [this]; simp
        clear HA
        go_wp2
        go_round
        case rel => exact ⟨k + 1, t, by omega, by go_num, rfl, by omega, Y⟩
        case measure => simp [intOf]; omega
    · obtain rfl : k = s.size := by omega
      go_wp2
      go_ret
      refine ⟨ret_str ?_, rfl⟩
      have := HT.out
      rw [List.take_of_length_le (by simp)] at this
      rw [← this]
end Go.Proofs.YtpdgdkmcdbfaiaaDoor.Sp
