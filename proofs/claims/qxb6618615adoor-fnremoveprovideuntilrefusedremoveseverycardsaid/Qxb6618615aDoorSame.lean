/-
  bytes.Equal, same, RemoveProvide's closure.
-/
import Derived.Test.Qxb6618615aDoorInj
import Derived.Laws.BytesArg
namespace Go.Proofs.Qxb6618615aDoor
open Go.RowKit Go.Lib
set_option linter.unusedVariables false
set_option linter.unusedSimpArgs false

theorem str9 {ok : Nat → Prop} {w : World} {v : Value} {l : List UInt8} (h : SliceAt ok w v (bv l)) : (convert 24 9 v).run Tryd.prog w = .ok (.string ⟨l.toArray⟩) w := by
  obtain ⟨p, c, rfl, hc⟩ := h.bytes
  cases p with
  | none =>
    obtain ⟨h1, h2, h3⟩ := h.none_zero
    have h4 : l = [] := List.eq_nil_of_length_eq_zero h2
    subst h4
    exact run_convert_bytes_nil w 24 5 Tryd.underlying24 Tryd.underlying5 _ c 9 Tryd.underlying9
  | some a =>
    refine run_convert_bytes_back w 24 9 5 a c l Tryd.underlying24 Tryd.underlying5 Tryd.underlying9 fun j hj => ?_
    obtain ⟨M, o, e, _, hcell⟩ := hc (by omega)
    cases e
    rw [Addr.add_lit]
    exact hcell j hj
theorem str_eq (l r : List UInt8) : (l == r) = decide (l = r) := by
  rw [Bool.eq_iff_iff, beq_iff_eq, decide_eq_true_iff]

set_option maxHeartbeats 2000000 in
theorem equal20 (ok ok' : Nat → Prop) (v1 v2 : Value) (l r : List UInt8) (w : World) (h1 : SliceAt ok w v1 (bv l)) (h2 : SliceAt ok' w v2 (bv r)) :
    Calls Tryd.prog 20 #[v1, v2] w fun e w' => e = .returned (.bool (decide (l = r))) ∧ w' = w := by
  have e1 := str9 h1
  have e2 := str9 h2
  have HE : Hid _ := str_eq l r
  clear h1 h2
  go_enter Tryd.func20, Tryd.ntmps20
  go_wp2
  go_ret
  exact ⟨ret_b HE.out, rfl⟩

set_option maxHeartbeats 2000000 in
/-- The same token? -/
theorem same17 (x y : List Lvl) (v1 v2 : Value) (w : World) (h1 : TokAt (fun b => b < w.heap.size) w x v1) (h2 : TokAt (fun b => b < w.heap.size) w y v2) (c1 : ∀ L ∈ x, L.caps.length ≤ 1048576) (c2 : ∀ L ∈ y, L.caps.length ≤ 1048576) (l1 : (sealed x).length ≤ 1000000000) (l2 : (sealed y).length ≤ 1000000000) :
    Calls Tryd.prog 17 #[v1, v2] w fun e w' => e = .returned (.bool (decide (sealed x = sealed y))) ∧ Below w.heap.size w w' := by
  have s1 := sealed21 w.heap.size x c1 v1 (.slice none 0 0) [] w h1 (own_nil _ w) (Nat.le_refl _) (by simpa using l1)
  have HS : Hid (∀ w1, Below w.heap.size w w1 → Calls Tryd.prog 21 #[v2, .slice none 0 0] w1 (App w1.heap.size w1 (.slice none 0 0) [] (sealed y))) := fun w1 hb =>
    sealed21 w1.heap.size y c2 v2 (.slice none 0 0) [] w1 (TokAt.mono (fun b h => Nat.lt_of_lt_of_le h hb.size) (TokAt.kept (kept_of_below hb fun _ h => h) h2)) (own_nil _ w1) (Nat.le_refl _) (by simpa using l2)
  have S1 : Hid (Calls Tryd.prog 21 #[v1, .slice none 0 0] w (App w.heap.size w (.slice none 0 0) [] (sealed x))) := s1
  clear s1 h1 h2
  go_enter Tryd.func17, Tryd.ntmps17
  go_wp2_with fail
  refine S1.out.mono ?_
  rintro e w1 ⟨u1, rfl, o1, t1⟩
  have hb1 := t1.below (own_nil w.heap.size w) (Nat.le_refl _)
  have O1 : Hid (Own w.heap.size w1 u1 (sealed x)) := o1
  clear o1
  go_wp2_with fail
  refine (HS.out w1 hb1).mono ?_
  rintro e w2 ⟨u2, rfl, o2, t2⟩
  have hb2 := t2.below (own_nil w1.heap.size w1) (Nat.le_refl _)
  have a1 := O1.out.sliceAt.kept (kept_of_below hb2 fun _ h => h.2)
  have a2 := Own.sliceAt o2
  have H20 : Hid (Calls Tryd.prog 20 #[u1, u2] w2 fun e w' => e = .returned (.bool (decide (sealed x = sealed y))) ∧ w' = w2) := equal20 _ _ u1 u2 (sealed x) (sealed y) w2 a1 a2
  clear o2 a1 a2
  go_wp2_with fail
  refine H20.out.mono ?_
  rintro e w3 ⟨rfl, rfl⟩
  go_wp2
  go_ret
  exact ⟨rfl, hb1.trans (hb2.mono hb1.size)⟩
end Go.Proofs.Qxb6618615aDoor
