/-
  RemoveProvide's closure, IndexFunc.
-/
import Derived.Test.Qxb6618615aDoorSame
import Derived.Test.Qxb6618615aDoorList
namespace Go.Proofs.Qxb6618615aDoor
open Go.RowKit Go.Lib
set_option linter.unusedVariables false
set_option linter.unusedSimpArgs false

theorem row_boxed {w : World} {t : List Lvl} {row : List Value} (h : RowAt (fun b => b < w.heap.size) w t row) :
    TokAt (fun b => b < (w.alloc (.cells row.toArray 44)).heap.size) (w.alloc (.cells row.toArray 44)) t (.pointer (some ⟨w.heap.size, 0, none⟩)) := by
  have hb : Below w.heap.size w (w.alloc (.cells row.toArray 44)) := (Below.refl _ w).alloc (Nat.le_refl _) _
  have hc : ∀ j : Nat, (w.alloc (.cells row.toArray 44)).cell? ⟨w.heap.size, j, none⟩ = row.toArray[j]? := fun j => cell_of_row _ _ _ row.toArray 44 (0, 0) (heap_alloc_last w _)
  obtain ⟨L, r, vc, vn, vp, vs, rfl, rfl, h1, h2, h3, h4⟩ := h
  have hm : ∀ b, b < w.heap.size → b < (w.alloc (.cells (rowOf L vc vn vp vs).toArray 44)).heap.size := fun b hb' => Nat.lt_of_lt_of_le hb' hb.size
  exact ⟨w.heap.size, 0, vc, vn, vp, vs, rfl, by simp, hc 0, hc 1, hc 2, hc 3, hc 4, hc 5, hc 6, hc 7, hc 8, hc 9, (h1.kept (kept_of_below hb fun _ h => h)).mono hm, (h2.kept (kept_of_below hb fun _ h => h)).mono hm, (h3.kept (kept_of_below hb fun _ h => h)).mono hm, TokAt.mono hm (TokAt.kept (kept_of_below hb fun _ h => h) h4)⟩

/-- What is asked of a token that is sealed. -/
def Good (t : List Lvl) : Prop := (∀ L ∈ t, L.caps.length ≤ 1048576) ∧ (sealed t).length ≤ 1000000000 ∧ numFits t
theorem good_eq {x y : List Lvl} (hx : Good x) (hy : Good y) : decide (sealed x = sealed y) = alike x y := by
  rw [Bool.eq_iff_iff, decide_eq_true_iff, alike_iff]
  exact ⟨sealed_inj hx.2.2 hy.2.2 hx.2.1 hy.2.1, fun h => by rw [h]⟩

set_option maxHeartbeats 2000000 in
theorem clo16 (x y : List Lvl) (X : Nat) (pv : Value) (row : List Value) (w : World) (hx : Good x) (hy : Good y) (hX : w.cell? ⟨X, 0, none⟩ = some pv) (h1 : TokAt (fun b => b < w.heap.size) w x pv) (h2 : RowAt (fun b => b < w.heap.size) w y row) :
    Calls Tryd.prog 16 #[.agg row.toArray, .pointer (some ⟨X, 0, none⟩)] w fun e w' => e = .returned (.bool (alike x y)) ∧ Below w.heap.size w w' := by
  have hb : Below w.heap.size w (w.alloc (.cells row.toArray 44)) := (Below.refl _ w).alloc (Nat.le_refl _) _
  have hXl : X < w.heap.size := World.block_lt_of_cell? w ⟨X, 0, none⟩ hX
  have hX' := (hb.cell (p := ⟨X, 0, none⟩) hXl).trans hX
  have b2 := row_boxed h2
  have b1 : TokAt (fun b => b < (w.alloc (.cells row.toArray 44)).heap.size) (w.alloc (.cells row.toArray 44)) x pv := TokAt.mono (fun b h => Nat.lt_of_lt_of_le h hb.size) (TokAt.kept (kept_of_below hb fun _ h => h) h1)
  have H17 : Hid (Calls Tryd.prog 17 #[pv, .pointer (some ⟨w.heap.size, 0, none⟩)] (w.alloc (.cells row.toArray 44)) fun e w' => e = .returned (.bool (decide (sealed x = sealed y))) ∧ Below (w.alloc (.cells row.toArray 44)).heap.size (w.alloc (.cells row.toArray 44)) w') := same17 x y pv _ _ b1 b2 hx.1 hy.1 hx.2.1 hy.2.1
  have HE : Hid _ := good_eq hx hy
  obtain ⟨L, r, vc, vn, vp, vs, e1, rfl, h3, h4, h5, h6⟩ := h2
  obtain ⟨q, rfl⟩ := h1.pointer
  obtain ⟨_, _, rfl, _⟩ := h3.strs
  obtain ⟨_, _, rfl, _⟩ := h4.bytes
  obtain ⟨_, _, rfl, _⟩ := h5.bytes
  obtain ⟨_, rfl⟩ := h6.pointer
  clear b1 b2 h1 h3 h4 h5 h6 e1
  unfold rowOf at *
  go_enter Tryd.func16, Tryd.ntmps16
  go_wp2_with fail
  refine H17.out.mono ?_
  rintro e w1 ⟨rfl, hb1⟩
  go_wp2
  go_ret
  exact ⟨ret_b HE.out, hb.trans (hb1.mono hb.size)⟩
end Go.Proofs.Qxb6618615aDoor
