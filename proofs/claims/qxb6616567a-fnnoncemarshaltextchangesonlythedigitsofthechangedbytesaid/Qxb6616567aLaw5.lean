/-
  FnNonceMarshalTextSpellsNonceAndKeepsOrder: the walk.
-/
import Derived.Test.Qxb6616567aCmp
namespace Go.Proofs.Qxb6616567a
open Go.RowKit Pl Go.Lib

theorem text_below {W w1 : World} {M B : Nat} {l : List UInt8} (h : Text W M l) (hb : Below B W w1) (hM : M < B) : Text w1 M l := by
  intro j hj
  rw [hb.cell (p := ⟨M, j, none⟩) hM]
  exact h j hj
theorem text_row {W : World} {M : Nat} {cs : Array Value} {t : TypeId} {l : List UInt8} (h : W.heap[M]? = some (.cells cs t (0, 0))) (hc : Cells16 cs l) : Text W M l := by
  intro j hj
  rw [cell_of_row _ _ _ cs t (0, 0) h]
  exact hc.2.2 j hj

theorem below_drewN {B : Nat} {a w : World} (h : Below B a w) (q : Nat) : Below B a (w.drewN q) := ⟨h.os, h.tape, h.output, h.size, h.block⟩
theorem text_drew {W : World} {M : Nat} {l : List UInt8} (n : Nat) (h : Text W M l) : Text (W.drewN n) M l := h

theorem load_row_guarded {P : Program} {ops : Array Oper} {rest : List Oper} {o : Oper} {a : Act} {w : World} {Q : Exit → Act → World → Prop} (ty : TypeId) (x : Operand) (ho : o.op = .load ty x) (hw : Region.wanted o (yielded ops a.tmps) = true)
    (g : Nat) (hx : a.eval x = .pointer (some ⟨g, 0, none⟩)) (t : TypeId) (cs : Array Value) (fr : Nat × Nat) (d : TypeDesc) (hg : w.heap[g]? = some (.cells cs t fr))
    (hu : P.underlying ty = some d) (hd : (match d with | .struct _ | .array _ _ => true | _ => false) = true) (hi : (P.info? ty).map (·.size) = some cs.size)
    (h : wpList P ops Q rest (a.put o.dst (.agg cs)) w) : wpList P ops Q (o :: rest) a w :=
  wpList_step fun _ hK => by rw [if_pos hw]; exact wp_load_row ty x ho g hx t cs fr d hg hu hd hi (hK _ _ h)

set_option maxHeartbeats 400000 in
theorem law5 (ca cb : Array Value) (la lb : List UInt8) (hA : Cells16 ca la) (hB : Cells16 cb lb) (w : World) :
    Calls Try.prog 5 #[.agg ca, .agg cb] w fun e w' => e = .returned (.bool true) ∧ Below w.heap.size w w' := by
  have HA : Hid (Cells16 ca la) := hA
  have HB : Hid (Cells16 cb lb) := hB
  have sa : ca.size = 16 := hA.2.1
  have sb : cb.size = 16 := hB.2.1
  clear hA hB
  go_enter Try.func5, Try.ntmps5
  go_wp2_with (refine wpList_load_row rfl 25 (Operand.tmp 2) rfl _ rfl 25 ca (0, 0) _ ?_ Try.underlying25 rfl (by rw [sa]; exact size25) ?_)
  · exact heap_alloc2_old w _ _
  have hz0 : ((w.alloc (.cells ca 25)).alloc (.cells cb 25)).heap.size = w.heap.size + 2 := by simp
  have hB0 : Below w.heap.size w ((w.alloc (.cells ca 25)).alloc (.cells cb 25)) := ((Below.refl _ w).alloc (Nat.le_refl _) _).alloc (by simp) _
  have ra0 := heap_alloc2_old w (.cells ca 25) (.cells cb 25)
  have rb0 := heap_alloc2_new w (.cells ca 25) (.cells cb 25)
  refine (marshal8 ca la HA.out _).mono ?_
  rintro e w1 ⟨M1, cap1, rfl, hM1, hM1', hB1, hT1⟩
  rw [hz0] at hB1 hM1
  have ra1 : w1.heap[w.heap.size]? = some (.cells ca 25 (0, 0)) := by rw [hB1.block _ (by omega)]; exact ra0
  have rb1 : w1.heap[w.heap.size + 1]? = some (.cells cb 25 (0, 0)) := by rw [hB1.block _ (by omega)]; exact rb0
  have z1 : w.heap.size + 2 ≤ w1.heap.size := by have := hB1.size; rw [hz0] at this; exact this
  have hB01 : Below w.heap.size w w1 := hB0.trans (hB1.mono (by omega))
  clear ra0 rb0 hz0 hB0 hB1
  go_wp2_with (refine wpList_load_row rfl 25 (Operand.tmp 3) rfl _ rfl 25 cb (0, 0) _ ?_ Try.underlying25 rfl (by rw [sb]; exact size25) ?_)
  · exact rb1
  refine (marshal8 cb lb HB.out _).mono ?_
  rintro e w2 ⟨M2, cap2, rfl, hM2, hM2', hB2, hT2⟩
  have hT1' := text_below hT1 hB2 hM1'
  have ra2 : w2.heap[w.heap.size]? = some (.cells ca 25 (0, 0)) := by rw [hB2.block _ (by omega)]; exact ra1
  have rb2 : w2.heap[w.heap.size + 1]? = some (.cells cb 25 (0, 0)) := by rw [hB2.block _ (by omega)]; exact rb1
  have z2 : w1.heap.size ≤ w2.heap.size := hB2.size
  have hB02 : Below w.heap.size w w2 := hB01.trans (hB2.mono (by omega))
  clear ra1 rb1 hT1 hB01 hB2
  have HT1 : Hid (Text w2 M1 (Hx.encode la)) := hT1'
  have HT2 : Hid (Text w2 M2 (Hx.encode lb)) := hT2
  clear hT1' hT2
  go_wp2_with (refine wpList_load_row rfl 25 (Operand.tmp 2) rfl _ rfl 25 ca (0, 0) _ ?_ Try.underlying25 rfl (by rw [sa]; exact size25) ?_)
  · exact ra2
  refine (spells9 ca la HA.out M1 cap1 _ HT1.out).mono ?_
  rintro e w3 ⟨rfl, rfl⟩
  have hB3 : Below w2.heap.size w2 (w2.alloc (.cells ca 25)) := (Below.refl _ w2).alloc (Nat.le_refl _) _
  go_wp2_with (refine load_row_guarded 25 (Operand.tmp 3) rfl rfl _ rfl 25 cb (0, 0) _ ?_ Try.underlying25 rfl (by rw [sb]; exact size25) ?_)
  · rw [hB3.block _ (by omega)]; exact rb2
  refine (spells9 cb lb HB.out M2 cap2 _ (text_below HT2.out hB3 hM2')).mono ?_
  rintro e w4 ⟨rfl, rfl⟩
  have hB4 : Below w2.heap.size w2 ((w2.alloc (.cells ca 25)).alloc (.cells cb 25)) := hB3.alloc (by simp) _
  have ha16 := HA.out.1
  have hb16 := HB.out.1
  have hc1 := fun n => cmp10 (Hx.encode la) (Hx.encode lb) 32 cap1 cap2 M1 M2 (((w2.alloc (.cells ca 25)).alloc (.cells cb 25)).drewN n) (encode_16 la ha16) (encode_16 lb hb16) (by omega) (text_drew n (text_below HT1.out hB4 (by omega))) (text_drew n (text_below HT2.out hB4 hM2'))
  have hc2 := fun n => cmp10 la lb 16 16 16 w.heap.size (w.heap.size + 1) (((w2.alloc (.cells ca 25)).alloc (.cells cb 25)).drewN n) ha16 hb16 (by omega) (text_drew n (text_below (text_row ra2 HA.out) hB4 (by omega))) (text_drew n (text_below (text_row rb2 HB.out) hB4 (by omega)))
  rw [cmp_encode la lb (ha16.trans hb16.symm)] at hc1
  generalize cmpL la lb = c at hc1 hc2
  clear ha16 hb16 ra2 rb2 hB3
  go_wp2
  go_quiet (first | (go_at_call_of 10 (Value.slice (some ({ block := M1, off := 0 } : Addr)) 32 cap1); exact Calls.quiet_of (hc1 _)) | (go_at_call_of 10 (Value.slice (some ({ block := w.heap.size, off := 0 } : Addr)) 16 16); exact Calls.quiet_of (hc2 _)))
  go_wp2
  go_ret
  exact ⟨rfl, below_drewN (hB02.trans (hB4.mono (by have := hB02.size; omega))) _⟩
end Go.Proofs.Qxb6616567a
