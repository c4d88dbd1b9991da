/-
  THE PLAIN LAW (over ASCII text the package's cut and the reference's are one) and THE WALKS of the three laws over FirstSentence; conditions: unicode.IsUpper answers U in this world and in every later one, and U is 'an upper case letter' on ASCII.
-/
import Derived.Test.YtpdgdkmcdbfaiaaDoorFsW
import Derived.Test.YtpdgdkmcdbfaiaaDoorSpW
namespace Go.Proofs.YtpdgdkmcdbfaiaaDoor.Fi
open Go.RowKit
open Fs (norm fsCut fsCut_end Ups) 
open Sp (up bt bt_of bt_lo bt_hi ends isSp spFrom spFrom_end keep asc ret_str ret_bool)

/-- Every byte is one of ASCII. -/
def Low (s : ByteArray) : Prop := ∀ i, bt s i < 128

theorem bt_extract (s : ByteArray) (n i : Nat) (hi : i < n) (hn : n ≤ s.size) : bt (s.extract 0 n) i = bt s i := by
  have h1 : i < (s.extract 0 n).size := by rw [ByteArray.size_extract]; omega
  rw [← bt_of _ i h1, ← bt_of s i (by omega)]
  congr 2
  rw [ByteArray.getElem_extract]
  simp

theorem norm_up {b : Int} : up (norm b) = up b := by
  unfold norm
  split
  · rename_i h
    rcases h with rfl | rfl | rfl <;> rfl
  · rfl
theorem norm_46 {b : Int} : norm b = 46 ↔ b = 46 := by
  unfold norm
  split
  · omega
  · exact Iff.rfl
theorem norm_32 {b : Int} : norm b = 32 ↔ isSp b = true := by
  unfold norm isSp
  simp only [Bool.or_eq_true, beq_iff_eq]
  split <;> omega
theorem norm_low {b : Int} (h0 : 0 ≤ b) (h : b < 128) : 0 ≤ norm b ∧ norm b < 128 := by
  unfold norm
  split <;> omega

theorem cut_eq (U : Int → Bool) (hU : ∀ c : Int, 0 ≤ c → c < 128 → U c = up c) (t : ByteArray) (hL : Low t) :
    ∀ (f1 f2 pos : Nat) (ppp pp p : Int), 1 ≤ pos → t.size ≤ pos + f1 → t.size ≤ pos + f2 → p = norm (bt t (pos - 1)) → pp = (if 2 ≤ pos then norm (bt t (pos - 2)) else 0) → ppp = (if 3 ≤ pos then norm (bt t (pos - 3)) else 0) →
      fsCut U t f1 pos ppp pp p = spFrom t f2 pos := by
  intro f1
  induction f1 with
  | zero =>
    intro f2 pos ppp pp p h1 hf1 hf2 _ _ _
    rw [spFrom_end _ _ _ (by omega)]
    rfl
  | succ f1 ih =>
    intro f2 pos ppp pp p h1 hf1 hf2 hp hpp hppp
    by_cases hlt : pos < t.size
    · obtain ⟨f2, rfl⟩ : ∃ g, f2 = g + 1 := ⟨f2 - 1, by omega⟩
      have hb : ((t[pos]'hlt).toNat : Int) = bt t pos := bt_of t pos hlt
      have hl := hL pos
      have hdec : Utf8.decode t pos = ((t[pos]'hlt).toNat, 1) := decode_ascii t pos hlt (by omega)
      have hp46 : p = 46 ↔ bt t (pos - 1) = 46 := by rw [hp]; exact norm_46
      have hUpp : U pp = (decide (2 ≤ pos) && up (bt t (pos - 2))) := by
        rw [hpp]
        by_cases h2 : 2 ≤ pos
        · have := norm_low (bt_lo t (pos - 2)) (hL (pos - 2))
          rw [if_pos h2, hU _ this.1 this.2, norm_up]; simp [h2]
        · rw [if_neg h2, hU 0 (by omega) (by omega)]; simp [h2]; rfl
      have hUppp : U ppp = (decide (3 ≤ pos) && up (bt t (pos - 3))) := by
        rw [hppp]
        by_cases h3 : 3 ≤ pos
        · have := norm_low (bt_lo t (pos - 3)) (hL (pos - 3))
          rw [if_pos h3, hU _ this.1 this.2, norm_up]; simp [h3]
        · rw [if_neg h3, hU 0 (by omega) (by omega)]; simp [h3]; rfl
      have hsz : (t.extract 0 pos).size = pos := by rw [ByteArray.size_extract]; omega
      have hends : ends (t.extract 0 pos) = ((bt t (pos - 1) == 46) && !(decide (2 ≤ pos) && up (bt t (pos - 2)) && (pos == 2 || !up (bt t (pos - 3))))) := by
        unfold ends
        rw [hsz, bt_extract t pos (pos - 1) (by omega) (by omega), bt_extract t pos (pos - 2) (by omega) (by omega), bt_extract t pos (pos - 3) (by omega) (by omega)]
        simp [h1]
      have hcond : (norm ((Utf8.decode t pos).1 : Int) = 32 ∧ p = 46 ∧ (U pp = false ∨ U ppp = true)) ↔ (isSp (bt t pos) = true ∧ ends (t.extract 0 pos) = true) := by
        rw [hdec]
        simp only
        rw [hb, norm_32, hp46, hUpp, hUppp, hends]
        constructor
        · rintro ⟨a, b, c⟩
          refine ⟨a, ?_⟩
          rw [b]
          by_cases h2 : 2 ≤ pos
          · by_cases h3 : 3 ≤ pos
            · have e2 : (pos == 2) = false := by rw [beq_eq_false_iff_ne]; omega
              rw [e2]
              simp [h2, h3] at c ⊢
              exact c
            · have e2 : (pos == 2) = true := by rw [beq_iff_eq]; omega
              rw [e2]
              simp [h2, h3] at c ⊢
              exact c
          · simp [h2]
        · rintro ⟨a, b⟩
          rw [Bool.and_eq_true, beq_iff_eq] at b
          refine ⟨a, b.1, ?_⟩
          have b2 := b.2
          by_cases h2 : 2 ≤ pos
          · by_cases h3 : 3 ≤ pos
            · have e2 : (pos == 2) = false := by rw [beq_eq_false_iff_ne]; omega
              rw [e2] at b2
              simp [h2, h3] at b2 ⊢
              exact b2
            · have e2 : (pos == 2) = true := by rw [beq_iff_eq]; omega
              rw [e2] at b2
              simp [h2, h3] at b2 ⊢
              exact b2
          · simp [h2]
      rw [fsCut, if_pos hlt, spFrom, if_pos hlt]
      by_cases hc : isSp (bt t pos) = true ∧ ends (t.extract 0 pos) = true
      · rw [if_pos hc, if_pos (hcond.2 hc)]
      · rw [if_neg hc, if_neg (fun h => hc (hcond.1 h))]
        have hpl := norm_low (bt_lo t (pos - 1)) (hL (pos - 1))
        rw [← hp] at hpl
        rw [if_neg (by omega), hdec]
        simp only
        refine ih f2 (pos + 1) pp p _ (by omega) (by omega) (by omega) (by rw [hb]; rfl) ?_ ?_
        · rw [if_pos (by omega), hp]; rfl
        · rw [hpp]
          by_cases h2 : 2 ≤ pos
          · rw [if_pos h2, if_pos (by omega), show pos + 1 - 3 = pos - 2 by omega]
          · rw [if_neg h2, if_neg (by omega)]
    · rw [fsCut_end _ _ _ _ _ _ _ hlt, spFrom_end _ _ _ hlt]

theorem cut_first (U : Int → Bool) (hU : ∀ c : Int, 0 ≤ c → c < 128 → U c = up c) (t : ByteArray) (hL : Low t) : fsCut U t t.size 0 0 0 0 = spFrom t t.size 1 := by
  by_cases h0 : 0 < t.size
  · obtain ⟨n, hn⟩ : ∃ n, t.size = n + 1 := ⟨t.size - 1, by omega⟩
    have hb : ((t[0]'h0).toNat : Int) = bt t 0 := bt_of t 0 h0
    have hl := hL 0
    have hdec : Utf8.decode t 0 = ((t[0]'h0).toNat, 1) := decode_ascii t 0 h0 (by omega)
    have : fsCut U t t.size 0 0 0 0 = fsCut U t n 1 0 0 (norm (bt t 0)) := by
      rw [hn, fsCut, if_pos h0, if_neg (by omega), if_neg (by omega), hdec]
      simp only
      rw [hb]
    rw [this]
    exact cut_eq U hU t hL n t.size 1 0 0 _ (by omega) (by omega) (by omega) rfl rfl rfl
  · rw [fsCut_end _ _ _ _ _ _ _ h0, spFrom_end _ _ _ (by omega)]

/-! THE WALKS. -/
theorem pub_any (U : Int → Bool) (s : ByteArray) (w : World) (hs : s.size ≤ 4611686018427387904) (hU : ∀ w', Below w.heap.size w w' → Ups U w') :
    Calls Tryd.prog 13 #[.string s] w fun e w' => e = .returned (.string (s.extract 0 (fsCut U s s.size 0 0 0 0))) ∧ Below w.heap.size w w' := by
  have C := Lib.hid (Fs.fs_any U s w hs hU)
  clear hU
  go_enter Tryd.func13, Tryd.ntmps13
  go_wp2_with fail
  refine C.out.mono ?_
  rintro e w' ⟨rfl, hb⟩
  go_wp2
  go_ret
  exact ⟨rfl, hb⟩
theorem impl_any (U : Int → Bool) (s : ByteArray) (w : World) (hs : s.size ≤ 4611686018427387904) (hU : ∀ w', Below w.heap.size w w' → Ups U w') :
    Calls Tryd.prog 10 #[.string s] w fun e w' => e = .returned (.string (s.extract 0 (fsCut U s s.size 0 0 0 0))) ∧ Below w.heap.size w w' := by
  have C := Lib.hid (pub_any U s w hs hU)
  clear hU
  go_enter Tryd.func10, Tryd.ntmps10
  go_wp2_with fail
  refine C.out.mono ?_
  rintro e w' ⟨rfl, hb⟩
  go_wp2
  go_ret
  exact ⟨rfl, hb⟩
theorem impl_call (U : Int → Bool) (s r : ByteArray) (w : World) (hs : s.size ≤ 4611686018427387904) (hU : ∀ w', Below w.heap.size w w' → Ups U w') (hr : s.extract 0 (fsCut U s s.size 0 0 0 0) = r) :
    Calls Tryd.prog 10 #[.string s] w fun e w' => e = .returned (.string r) ∧ Below w.heap.size w w' := by
  subst hr; exact impl_any U s w hs hU

/-- "a b. c" -/
abbrev abc : ByteArray := { data := #[97, 32, 98, 46, 32, 99] }
/-- "a b." -/
abbrev ab : ByteArray := { data := #[97, 32, 98, 46] }
theorem abc_low : Low abc := by
  intro i
  by_cases hi : i < 6
  · have : ∀ i, i < 6 → bt abc i < 128 := by decide
    exact this i hi
  · unfold bt
    rw [List.getD, List.getElem?_eq_none (by simp; omega)]
    decide
theorem abc_cut (U : Int → Bool) (hU : ∀ c : Int, 0 ≤ c → c < 128 → U c = up c) : abc.extract 0 (fsCut U abc abc.size 0 0 0 0) = ab := by
  rw [cut_first U hU abc abc_low]
  decide

theorem asc_low (c : Bool) (l : List UInt8) : Low ⟨(asc c l).toArray⟩ := by
  intro i
  unfold bt
  rw [List.getD]
  cases h : (ByteArray.mk (asc c l).toArray).data.toList[i]? with
  | none => simp
  | some b =>
    have hm : b ∈ asc c l := by simpa using List.mem_of_getElem? h
    unfold asc at hm
    have := (List.mem_filter.1 hm).2
    unfold keep at this
    rw [Bool.and_eq_true, decide_eq_true_eq] at this
    simp only [Option.getD_some]
    omega
theorem asc_size (c : Bool) (s : ByteArray) : (ByteArray.mk (asc c s.data.toList).toArray).size ≤ s.size := by
  have : (asc c s.data.toList).length ≤ s.data.toList.length := List.length_filter_le _ _
  rw [Array.length_toList] at this
  show (asc c s.data.toList).toArray.size ≤ s.data.size
  rw [List.size_toArray]
  exact this

set_option maxHeartbeats 1000000 in
set_option maxRecDepth 100000 in
theorem prefix_law (U : Int → Bool) (hV : ∀ c : Int, 0 ≤ c → c < 128 → U c = up c) (s : ByteArray) (w : World) (hs : s.size ≤ maxLen) (hU : ∀ w', Below w.heap.size w w' → Ups U w') :
    Calls Tryd.prog 5 #[.string s] w fun e w' => e = .returned (.bool true) ∧ Below w.heap.size w w' := by
  unfold maxLen at hs
  by_cases hbig : (s.size : Int) ≤ 2147483647
  · obtain ⟨r, hr⟩ : ∃ r, s.extract 0 (fsCut U s s.size 0 0 0 0) = r := ⟨_, rfl⟩
    have hrs : r.size ≤ s.size := by rw [← hr, ByteArray.size_extract]; omega
    have hre : s.extract 0 r.size = r := by
      rw [← hr, ByteArray.size_extract]
      apply ByteArray.ext
      simp only [ByteArray.data_extract]
      apply Array.ext'
      simp
    have C1 := Lib.hid (impl_call U s r w (by omega) hU hr)
    have C2 : Hid (∀ w', Below w.heap.size w w' → Calls Tryd.prog 10 #[.string abc] w' fun e w'' => e = .returned (.string ab) ∧ Below w'.heap.size w' w'') := fun w' h => impl_call U abc ab w' (by decide) (fun w'' h' => hU w'' (h.trans (h'.mono h.size))) (abc_cut U hV)
    have HR := Lib.hid hre
    clear hU hV hr hre
    go_enter Tryd.func5, Tryd.ntmps5
    go_wp2_with fail
    refine C1.out.mono ?_
    rintro e w1 ⟨rfl, hb1⟩
    go_wp2_with fail
    refine (C2.out w1 hb1).mono ?_
    rintro e w2 ⟨rfl, hb2⟩
    have hq : ((s.extract 0 r.size).toList == r.toList) = true := by rw [HR.out]; simp
    go_wp2
    go_ret
    exact ⟨rfl, hb1.trans (hb2.mono hb1.size)⟩
  · go_enter Tryd.func5, Tryd.ntmps5
    go_wp2
    go_ret
    exact ⟨rfl, Below.refl _ _⟩

set_option maxHeartbeats 1000000 in
set_option maxRecDepth 100000 in
theorem first_law (U : Int → Bool) (hV : ∀ c : Int, 0 ≤ c → c < 128 → U c = up c) (s : ByteArray) (w : World) (hs : s.size ≤ maxLen) (hU : ∀ w', Below w.heap.size w w' → Ups U w') :
    Calls Tryd.prog 4 #[.string s] w fun e w' => e = .returned (.bool true) ∧ Below w.heap.size w w' := by
  unfold maxLen at hs
  by_cases hbig : (s.size : Int) ≤ 2147483647
  · have CA := Sp.ascii_any s false w (by omega)
    have hlow := asc_low false s.data.toList
    have hts := asc_size false s
    generalize (⟨(asc false s.data.toList).toArray⟩ : ByteArray) = t at *
    obtain ⟨r, hr⟩ : ∃ r, t.extract 0 (spFrom t t.size 1) = r := ⟨_, rfl⟩
    have hr2 : t.extract 0 (fsCut U t t.size 0 0 0 0) = r := by rw [cut_first U hV t hlow, hr]
    have C0 : Hid (Calls Tryd.prog 9 #[.string s, .bool false] w fun e w' => e = .returned (.string t) ∧ w = w') := CA
    have C1 := Lib.hid (impl_call U abc ab w (by decide) hU (abc_cut U hV))
    have C2 : Hid (∀ w', Below w.heap.size w w' → Calls Tryd.prog 10 #[.string t] w' fun e w'' => e = .returned (.string r) ∧ Below w'.heap.size w' w'') := fun w' h => impl_call U t r w' (by omega) (fun w'' h' => hU w'' (h.trans (h'.mono h.size))) hr2
    have C3 : Hid (∀ w', Calls Tryd.prog 11 #[.string t] w' fun e w'' => e = .returned (.string r) ∧ w' = w'') := fun w' => by have := Sp.first_any t w' (by omega); rwa [hr] at this
    clear CA hU hV hr hr2 hlow
    go_enter Tryd.func4, Tryd.ntmps4
    go_wp2_with fail
    refine C0.out.mono ?_
    rintro e w1 ⟨rfl, rfl⟩
    go_wp2_with fail
    refine C1.out.mono ?_
    rintro e w1 ⟨rfl, hb1⟩
    go_wp2_with fail
    refine (C2.out w1 hb1).mono ?_
    rintro e w2 ⟨rfl, hb2⟩
    go_wp2_with fail
    refine (C3.out w2).mono ?_
    rintro e w3 ⟨rfl, rfl⟩
    go_wp2
    go_ret
    exact ⟨rfl, hb1.trans (hb2.mono hb1.size)⟩
  · go_enter Tryd.func4, Tryd.ntmps4
    go_wp2
    go_ret
    exact ⟨rfl, Below.refl _ _⟩

set_option maxHeartbeats 1000000 in
set_option maxRecDepth 100000 in
theorem spaces_law (U : Int → Bool) (hV : ∀ c : Int, 0 ≤ c → c < 128 → U c = up c) (s : ByteArray) (w : World) (hs : s.size ≤ maxLen) (hU : ∀ w', Below w.heap.size w w' → Ups U w') :
    Calls Tryd.prog 6 #[.string s] w fun e w' => e = .returned (.bool true) ∧ Below w.heap.size w w' := by
  unfold maxLen at hs
  by_cases hbig : (s.size : Int) ≤ 2147483647
  · have CA := Sp.ascii_any s true w (by omega)
    have hlow := asc_low true s.data.toList
    have hts := asc_size true s
    generalize (⟨(asc true s.data.toList).toArray⟩ : ByteArray) = t at *
    obtain ⟨r, hr⟩ : ∃ r, t.extract 0 (spFrom t t.size 1) = r := ⟨_, rfl⟩
    have hr2 : t.extract 0 (fsCut U t t.size 0 0 0 0) = r := by rw [cut_first U hV t hlow, hr]
    have C0 : Hid (Calls Tryd.prog 9 #[.string s, .bool true] w fun e w' => e = .returned (.string t) ∧ w = w') := CA
    have C1 := Lib.hid (impl_call U abc ab w (by decide) hU (abc_cut U hV))
    have C2 : Hid (∀ w', Below w.heap.size w w' → Calls Tryd.prog 10 #[.string t] w' fun e w'' => e = .returned (.string r) ∧ Below w'.heap.size w' w'') := fun w' h => impl_call U t r w' (by omega) (fun w'' h' => hU w'' (h.trans (h'.mono h.size))) hr2
    have C3 : Hid (∀ w', Calls Tryd.prog 11 #[.string t] w' fun e w'' => e = .returned (.string r) ∧ w' = w'') := fun w' => by have := Sp.first_any t w' (by omega); rwa [hr] at this
    clear CA hU hV hr hr2 hlow
    go_enter Tryd.func6, Tryd.ntmps6
    go_wp2_with fail
    refine C0.out.mono ?_
    rintro e w1 ⟨rfl, rfl⟩
    go_wp2_with fail
    refine C1.out.mono ?_
    rintro e w1 ⟨rfl, hb1⟩
    go_wp2_with fail
    refine (C2.out w1 hb1).mono ?_
    rintro e w2 ⟨rfl, hb2⟩
    go_wp2_with fail
    refine (C3.out w2).mono ?_
    rintro e w3 ⟨rfl, rfl⟩
    go_wp2
    go_ret
    exact ⟨rfl, hb1.trans (hb2.mono hb1.size)⟩
  · go_enter Tryd.func6, Tryd.ntmps6
    go_wp2
    go_ret
    exact ⟨rfl, Below.refl _ _⟩
end Go.Proofs.YtpdgdkmcdbfaiaaDoor.Fi
