/-
  FnPredeclared: for every string the law returns true; conditions: the three package-level maps hold what the program's text lays (the row's list, tied by the given card).
-/
import Derived.Test.YtpdgdkmcdbfaiaaDoorCards
import Derived.Test.YtpdgdkmcdbfaiaaDoorTie
import Derived.Test.YtpdgdkmcdbfaiaaDoorPreW
import Derived.ProofKit
import Derived.OpenShut
import Derived.LaidMore
import Derived.Lay
import Derived.SevenTiedAt
import Derived.Stop.Joined
namespace Go.Proofs.YtpdgdkmcdbfaiaaDoor.Pre
open Go.ChangeShapes Go.WideShapes Go.ChangeAt Go.WideMaps Go.WideElems Go.RowKit

theorem own : ownKnob Tryd.prog.godebug = none := by kernel_rfl
theorem law9 : KeyLaw Tryd.prog 9 := string_law Tryd.underlying9

theorem cell_lt {w : World} {a : Addr} {v : Value} (h : w.cell? a = some v) : a.block < w.heap.size := by
  apply Decidable.byContradiction
  intro hn
  simp [World.cell?, Array.getElem?_eq_none (Nat.le_of_not_lt hn)] at h

/-- What a datum answers at a key. -/
def inMap (d : DataW Unit) (s : List UInt8) : Bool := match d.atKey (.string s) .nil with | .lit (.bool b) => b | _ => false

/-- One listed map: its variable's cell, and every look-up in every world that holds its block. -/
theorem of_var {W : World} {n : String} {g : Nat} {cs : Array Value} {fuel : Nat} {en : List (Lit × DataW Unit)} {p : List MemPlace}
    (hg : Tryd.prog.globalNamed n = some g) (hv : W.var? Tryd.prog n = some cs)
    (hd : DataW.trod (fun _ => ()) Tryd.prog W 0 (fun _ => true) false fuel 26 cs.toList = some (.map en, p)) :
    ∃ bm, W.cell? ⟨g, 0, none⟩ = some (.map (some bm)) ∧ bm < W.heap.size ∧
      ∀ w' : World, w'.heap[bm]? = W.heap[bm]? → ∀ s : ByteArray, s.size ≤ maxLen →
        (Instr.lookup 26 (.map (some bm)) (.string s) false).run Tryd.prog w' = .ok (.bool (inMap (.map en) s.data.toList)) w' := by
  rcases open_map Tryd.underlying26 hd with ⟨_, hx⟩ | ⟨bm, es, clock, m, rfl, hcs, hb, _, F, hx⟩
  · simp at hx
  simp only [Prod.mk.injEq] at hx
  refine ⟨bm, ?_, ?_, ?_⟩
  · have := World.var?_cell hg hv 0
    rw [Array.eq_one_of_toList hcs] at this
    simpa using this
  · exact (Array.getElem?_eq_some_iff.1 hb).1
  · intro w' hh s hs
    have hb' : w'.heap[bm]? = some (.map es clock) := hh.trans hb
    have zero : (zeroValue 4).run Tryd.prog w' = .ok (.bool false) w' := by kernel_rfl
    rcases fit_lookup (w := w') law9 Tryd.underlying26 zero hb' F (keyOf_string_mk (s := s) Tryd.underlying9 hs) with ⟨hrun, hat⟩ | ⟨v, y, hrun, hRv, hat, _⟩
    · have h1 := hat .nil
      rw [← hx.1] at h1
      rw [hrun]
      unfold inMap
      rw [h1]
    · obtain ⟨b, rfl, rfl⟩ := elemAt_bool Tryd.underlying4 hRv
      have h1 := hat .nil
      rw [← hx.1] at h1
      rw [hrun]
      unfold inMap
      rw [h1]

/-- WHAT THE CONDITION GIVES THE WALKS. -/
def p3 (s : ByteArray) : Bool := inMap Rows.laid_gistmaker_pub_gosynopsis_predeclaredTypes s.data.toList || inMap Rows.laid_gistmaker_pub_gosynopsis_predeclaredFuncs s.data.toList || inMap Rows.laid_gistmaker_pub_gosynopsis_predeclaredConstants s.data.toList

theorem of_laid {W : World} (h : laidMetH Tryd.prog Rows.fnPredeclaredRow.laid W) : ∀ w', Below W.heap.size W w' → Looks p3 w' := by
  rw [MakeChecks.laidMetH_plain _ _ _ (by kernel_rfl)] at h
  obtain ⟨ps, ⟨g0, t0, cs0, f0, p0, q0, hg0, ht0, hv0, hd0, ⟨g1, t1, cs1, f1, p1, q1, hg1, ht1, hv1, hd1, ⟨g2, t2, cs2, f2, p2, q2, hg2, ht2, hv2, hd2, _, _⟩, _⟩, _⟩, _, _⟩ := h
  obtain rfl := Option.some.inj ((show Tryd.prog.globalNamed "gistmaker/pub/gosynopsis.predeclaredTypes" = some 0 by kernel_rfl).symm.trans hg0)
  obtain rfl := Option.some.inj ((show Tryd.prog.globalNamed "gistmaker/pub/gosynopsis.predeclaredFuncs" = some 1 by kernel_rfl).symm.trans hg1)
  obtain rfl := Option.some.inj ((show Tryd.prog.globalNamed "gistmaker/pub/gosynopsis.predeclaredConstants" = some 2 by kernel_rfl).symm.trans hg2)
  obtain rfl := Option.some.inj ((show (Tryd.prog.globals[0]?).map (·.type) = some 26 by kernel_rfl).symm.trans ht0)
  obtain rfl := Option.some.inj ((show (Tryd.prog.globals[1]?).map (·.type) = some 26 by kernel_rfl).symm.trans ht1)
  obtain rfl := Option.some.inj ((show (Tryd.prog.globals[2]?).map (·.type) = some 26 by kernel_rfl).symm.trans ht2)
  obtain ⟨b0, hc0, hl0, L0⟩ := of_var hg0 hv0 hd0
  obtain ⟨b1, hc1, hl1, L1⟩ := of_var hg1 hv1 hd1
  obtain ⟨b2, hc2, hl2, L2⟩ := of_var hg2 hv2 hd2
  intro w' hb s hs
  exact impl_any s w' b0 b1 b2 _ _ _ ((hb.cell (p := ⟨0, 0, none⟩) (cell_lt hc0)).trans hc0) ((hb.cell (p := ⟨1, 0, none⟩) (cell_lt hc1)).trans hc1) ((hb.cell (p := ⟨2, 0, none⟩) (cell_lt hc2)).trans hc2)
    (L0 w' (hb.block _ hl0) s hs) (L1 w' (hb.block _ hl1) s hs) (L2 w' (hb.block _ hl2) s hs)

/-- THE PLAIN LAW: the three maps' keys are the specification's list. -/
def keysOf : DataW Unit → List (List UInt8)
  | .map en => en.map fun x => match x.1 with | .string k => k | _ => []
  | _ => []
def allTrue : DataW Unit → Bool
  | .map en => en.all fun x => match x.1, x.2 with | .string _, .lit (.bool b) => b | _, _ => false
  | _ => false
theorem inMap_keys (d : DataW Unit) (h : allTrue d = true) (s : List UInt8) : inMap d s = (keysOf d).any fun k => s == k := by
  cases d with
  | map en =>
    simp only [allTrue] at h
    unfold inMap DataW.atKey keysOf
    simp only
    induction en with
    | nil => rfl
    | cons x r ih =>
      rw [List.all_cons, Bool.and_eq_true] at h
      obtain ⟨h1, h2⟩ := h
      have ih := ih h2
      obtain ⟨k, v⟩ := x
      cases k with
      | string k =>
        cases v with
        | lit l =>
          cases l with
          | bool b =>
            simp only at h1
            subst h1
            rw [List.find?_cons, List.map_cons, List.any_cons]
            simp only [Lit.sameKey]
            by_cases e : k = s
            · subst e; simp
            · have e1 : (k == s) = false := by simpa using e
              have e2 : (s == k) = false := by simpa using fun e' => e e'.symm
              rw [e1, e2, Bool.false_or]
              exact ih
          | _ => simp at h1
        | _ => simp at h1
      | _ => simp at h1
  | _ => simp [allTrue] at h

theorem p3_keys (s : ByteArray) : p3 s = hasK 44 s := by
  unfold p3
  rw [inMap_keys _ (by decide), inMap_keys _ (by decide), inMap_keys _ (by decide), hasK_data, ← List.any_append, ← List.any_append]
  have e : (keys.take 44).any (fun x => s.data.toList == x.data.toList) = ((keys.take 44).map (·.data.toList)).any fun k => s.data.toList == k := by rw [List.any_map]; rfl
  rw [e, Bool.eq_iff_iff, List.any_eq_true, List.any_eq_true]
  have hp : ∀ k : List UInt8, k ∈ (keysOf Rows.laid_gistmaker_pub_gosynopsis_predeclaredTypes ++ keysOf Rows.laid_gistmaker_pub_gosynopsis_predeclaredFuncs ++ keysOf Rows.laid_gistmaker_pub_gosynopsis_predeclaredConstants) ↔ k ∈ (keys.take 44).map (·.data.toList) := by
    intro k
    constructor
    · intro h
      have := List.all_eq_true.1 (show (keysOf Rows.laid_gistmaker_pub_gosynopsis_predeclaredTypes ++ keysOf Rows.laid_gistmaker_pub_gosynopsis_predeclaredFuncs ++ keysOf Rows.laid_gistmaker_pub_gosynopsis_predeclaredConstants).all (fun k => ((keys.take 44).map (·.data.toList)).contains k) = true by decide +kernel) k h
      simpa using this
    · intro h
      have := List.all_eq_true.1 (show ((keys.take 44).map (·.data.toList)).all (fun k => (keysOf Rows.laid_gistmaker_pub_gosynopsis_predeclaredTypes ++ keysOf Rows.laid_gistmaker_pub_gosynopsis_predeclaredFuncs ++ keysOf Rows.laid_gistmaker_pub_gosynopsis_predeclaredConstants).contains k) = true by decide +kernel) k h
      simpa using this
  constructor
  · rintro ⟨k, hk, h⟩; exact ⟨k, (hp k).1 hk, h⟩
  · rintro ⟨k, hk, h⟩; exact ⟨k, (hp k).2 hk, h⟩

/-- The door's own heap meets the condition: closed facts. -/
theorem door_met (os : Os) (args : Array Value) : laidMetH Tryd.prog Rows.fnPredeclaredRow.laid ((World.doorLaid Tryd.prog 249 os).forCall (fun _ _ => 0) ⟨#[], args, []⟩).memory :=
  laidMetH_of_parts3 (fuel := 8) (laidMet_of_run' 8 (by kernel_rfl) (by kernel_rfl)) (by kernel_rfl) (by kernel_rfl)

set_option maxRecDepth 100000 in
theorem lifted (os : Os) (started : os.Started) (H : Type) (enc : TypeId × Value → H) :
    ReturnsInHanded {} Tryd.checked os 3 .any (fun w args => (Rows.fnPredeclaredSpec.pre enc Tryd.prog Tryd.f3 [] false w args ∧ laidMetH Tryd.prog Rows.fnPredeclaredRow.laid w) ∧ sizedMet enc Tryd.prog Tryd.f3 (OpenSpec.ofChange Rows.fnPredeclaredSpec) false w args)
      (Rows.fnPredeclaredSpec.post enc Tryd.prog Tryd.f3 false true false false) := by
  refine returnsInHanded_of_change_and (C := Tryd.checked) (X := fun w _ => laidMetH Tryd.prog Rows.fnPredeclaredRow.laid w) (fun _ _ _ hh h => h.of_heap hh) own started (by kernel_rfl) Tryd.func3
    (ChangeSpec.witness_shaped (enc := enc) (C := Tryd.checked) (os := os) (X := fun w _ => laidMetH Tryd.prog Rows.fnPredeclaredRow.laid w) false (World.doorLaid Tryd.prog 249 os) #[.string ByteArray.empty] 8 rfl
      (World.shaped_of_RefB (by kernel_rfl) (by kernel_rfl)) (by kernel_rfl) (by kernel_rfl) (by kernel_rfl) (door_met os _)) ?_
  intro W base args ds gs before hval0 hW _ _ hL _
  have hval : ∀ (j : Nat) t v, Tryd.f3.params[j]? = some t → args[j]? = some v → Value.okWide Tryd.prog W .any base t v := hval0
  have hW' := hW
  obtain ⟨p, q, hA0, hV, rfl, _, _⟩ := hW
  have hA : DataW.TrodAll enc Tryd.prog W 0 (fun _ => true) true Tryd.f3.params.toList args.toList ds p := hA0
  rw [Tryd.params3] at hA hval
  obtain ⟨v0, d0, rfl, rfl, h0⟩ := trodAll_one hA
  obtain ⟨rfl, rfl⟩ := trodVars_none hV
  obtain ⟨s, rfl, rfl, rfl, hs⟩ := Go.ChangeMaps.open_string Tryd.underlying9 (hval 0 9 v0 rfl rfl) h0
  simp only [List.append_nil] at hW'
  refine (law_any p3 s W hs p3_keys (of_laid hL)).mono fun e W' ⟨he, hw⟩ => ?_
  subst he
  exact ⟨_, rfl, _, _, _, [], [], [], hW', trodAll_mk1 (shut_bool Tryd.underlying4 _), trodAll_mk1 (Go.ChangeMaps.shut_string Tryd.underlying9 hs), rfl, hw.frame _, fun h => by cases h⟩

theorem said : Rows.FnPredeclaredSaid :=
  OpenClaim.holds_of_wide 3 Tryd.f3 rfl rfl rfl rfl rfl rfl rfl ⟨rfl, rfl, rfl, rfl, rfl⟩ rfl rfl rfl rfl rfl (by kernel_rfl) Tryd.func3 (by kernel_rfl)
    (of_decide_eq_true (by kernel_rfl)) (by unfold Func.isWrapper; first | (rw [if_pos (by decide +kernel)]; kernel_rfl) | (rw [if_neg (by decide +kernel)]; exact ⟨rfl, rfl⟩))
    (fun os started H enc _ => lifted os started H enc)

/-- No parameter wants a stand-in; the program's own looks are off. -/
theorem plain (f : FuncId) (fn : Func) (hf : Tryd.pinned.checked.prog.funcNamed "gistmaker/laws.FnPredeclared" = some f) (hfn : Tryd.pinned.checked.prog.funcs[f]? = some fn) :
    false = Tryd.pinned.checked.prog.looks [] ∧ ∀ (j : Nat) t, fn.params[j]? = some t → Tryd.pinned.checked.prog.wantsStandIn t = false := by
  obtain rfl : f = 3 := Option.some.inj ((show Tryd.prog.funcNamed "gistmaker/laws.FnPredeclared" = some 3 by kernel_rfl).symm.trans hf) |>.symm
  obtain rfl : fn = Tryd.f3 := (Option.some.inj (Tryd.func3.symm.trans hfn)).symm
  refine ⟨by kernel_rfl, fun j t ht => ?_⟩
  rw [Tryd.params3] at ht
  obtain rfl : t = 9 := by simpa using Array.mem_of_getElem? ht
  exact (show Tryd.prog.wantsStandIn 9 = false by kernel_rfl)

theorem card : Rows.FnPredeclaredCardSaid :=
  Claim7.holds_tied_plain_at .later [] _ _ _ _ said (fun _ h => by cases h) (by kernel_rfl) (fun _ h => by cases h) fnPredeclared_row_tie rfl ⟨rfl, rfl⟩ (by kernel_rfl) rfl plain (by kernel_rfl)
#print axioms card
end Go.Proofs.YtpdgdkmcdbfaiaaDoor.Pre
