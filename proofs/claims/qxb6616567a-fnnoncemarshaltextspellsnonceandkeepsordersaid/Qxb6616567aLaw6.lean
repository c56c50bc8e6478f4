/-
  FnNonceMarshalTextChangesOnlyTheDigitsOfTheChangedByte: the walk.
-/
import Derived.Test.Qxb6616567aLaw5
import Derived.Great.BuildSlice
namespace Go.Proofs.Qxb6616567a
open Go.RowKit Pl Go.Lib

theorem setRow_alloc2 (w : World) (A : Obj) (c c' : Array Value) (t : TypeId) : ((w.alloc A).alloc (.cells c t)).setRow (w.heap.size + 1) c' = (w.alloc A).alloc (.cells c' t) := by
  have h := World.setRow_alloc_new (w.alloc A) c c' t
  have e : (w.alloc A).heap.size = w.heap.size + 1 := by simp
  rwa [e] at h
/-- The array stored into the block that was made last. -/
theorem store25 {ops : Array Oper} {rest : List Oper} {a : Act} {Q : Exit → Act → World → Prop} {pos : String} {af : Array Edge} (w : World) (A : Obj) (zs C : Array Value) (hC : C.size = 16) (hC1 : C.all (·.oneCell') = true)
    (hx : a.eval (.tmp 7) = .pointer (some ⟨w.heap.size + 1, 0, none⟩)) (hy : a.eval (.tmp 21) = .agg C) (hz : zs.size = 16)
    (h : wpList Try.prog ops Q rest (a.put none undef) ((w.alloc A).alloc (.cells C 25))) :
    wpList Try.prog ops Q ({ dst := none, op := .store 25 (.tmp 7) (.tmp 21), type := 0, pos := pos, after := af, guard := none } :: rest) a ((w.alloc A).alloc (.cells zs 25)) := by
  refine wpList_store_row rfl 25 (.tmp 7) (.tmp 21) rfl (w.heap.size + 1) C hx hy 25 zs (heap_alloc2_new w A _) (by rw [hC]; exact size25) (by rw [hC, hz]) hC1 ?_
  rw [setRow_alloc2]
  exact h

set_option maxHeartbeats 400000 in
theorem law6_out (cs : Array Value) (i v : Int) (w : World) (hi : i < 0 ∨ 15 < i) :
    Calls Try.prog 6 #[.agg cs, .int .i64 i, .int .u8 v] w fun e w' => e = .returned (.bool true) ∧ Below w.heap.size w w' := by
  rcases hi with hi | hi
  all_goals
    go_enter Try.func6, Try.ntmps6
    go_wp2
    go_ret
    exact ⟨rfl, (Below.refl _ w).alloc (Nat.le_refl _) _⟩

theorem cells_set {cs : Array Value} {l : List UInt8} (h : Cells16 cs l) (i : Nat) (v : UInt8) : Cells16 (cs.setIfInBounds i (.int .u8 (v.toNat : Int))) (l.set i v) := by
  obtain ⟨h1, h2, h3⟩ := h
  refine ⟨by rw [List.length_set]; exact h1, by rw [Array.size_setIfInBounds]; exact h2, ?_⟩
  intro j hj
  have hj' : j < l.length := by rw [List.length_set] at hj; exact hj
  rw [Array.getElem?_setIfInBounds]
  by_cases e : i = j
  · subst e
    rw [if_pos rfl, if_pos (by omega), List.getElem_set_self]
  · rw [if_neg e, List.getElem_set_ne e]
    exact h3 j hj'

set_option maxHeartbeats 1000000 in
theorem law6_in (cs : Array Value) (l : List UInt8) (i : Nat) (v : UInt8) (hc : Cells16 cs l) (hone : cs.all (·.oneCell') = true) (hi : i < 16) (w : World) :
    Calls Try.prog 6 #[.agg cs, .int .i64 (i : Int), .int .u8 (v.toNat : Int)] w fun e w' => e = .returned (.bool true) ∧ Below w.heap.size w w' := by
  have HC : Hid (Cells16 cs l) := hc
  have H1 : Hid (cs.all (·.oneCell') = true) := hone
  have hs : cs.size = 16 := hc.2.1
  have HS : Hid (cs.size = 16) := hs
  have hi0 : decide ((i : Int) < 0) = false := by simp
  have hi15 : decide (15 < (i : Int)) = false := by simp; omega
  clear hc hone
  go_enter Try.func6, Try.ntmps6
  go_wp2_with (first
    | (refine wpList_load_row rfl 25 (Operand.tmp 3) rfl _ rfl 25 cs (0, 0) _ ?_ Try.underlying25 rfl (by rw [hs]; exact size25) ?_)
    | (refine store25 w _ _ cs HS.out H1.out ?_ ?_ ?_ ?_; rfl; rfl; rfl))
  · exact heap_alloc_last w _
  · exact heap_alloc2_old w _ _
  have hM := cells_set HC.out i v
  generalize cs.setIfInBounds i (.int .u8 (v.toNat : Int)) = cm at hM ⊢
  have HM : Hid (Cells16 cm (l.set i v)) := hM
  have sm : cm.size = 16 := hM.2.1
  clear hM
  have hz0 : ((w.alloc (.cells cs 25)).alloc (.cells cm 25)).heap.size = w.heap.size + 2 := by simp
  have hB0 : Below w.heap.size w ((w.alloc (.cells cs 25)).alloc (.cells cm 25)) := ((Below.refl _ w).alloc (Nat.le_refl _) _).alloc (by simp) _
  have ra0 := heap_alloc2_old w (.cells cs 25) (.cells cm 25)
  have rb0 := heap_alloc2_new w (.cells cs 25) (.cells cm 25)
  refine (marshal8 cs l HC.out _).mono ?_
  rintro e w1 ⟨M1, cap1, rfl, hM1, hM1', hB1, hT1⟩
  rw [hz0] at hB1 hM1
  have ra1 : w1.heap[w.heap.size]? = some (.cells cs 25 (0, 0)) := by rw [hB1.block _ (by omega)]; exact ra0
  have rb1 : w1.heap[w.heap.size + 1]? = some (.cells cm 25 (0, 0)) := by rw [hB1.block _ (by omega)]; exact rb0
  have z1 : w.heap.size + 2 ≤ w1.heap.size := by have := hB1.size; rw [hz0] at this; exact this
  have hB01 : Below w.heap.size w w1 := hB0.trans (hB1.mono (by omega))
  clear ra0 rb0 hz0 hB0 hB1
  go_wp2_with (refine wpList_load_row rfl 25 (Operand.tmp 7) rfl _ rfl 25 cm (0, 0) _ ?_ Try.underlying25 rfl (by rw [sm]; exact size25) ?_)
  · exact rb1
  refine (marshal8 cm (l.set i v) HM.out _).mono ?_
  rintro e w2 ⟨M2, cap2, rfl, hM2, hM2', hB2, hT2⟩
  have hT1' := text_below hT1 hB2 hM1'
  have ra2 : w2.heap[w.heap.size]? = some (.cells cs 25 (0, 0)) := by rw [hB2.block _ (by omega)]; exact ra1
  have z2 : w1.heap.size ≤ w2.heap.size := hB2.size
  have hB02 : Below w.heap.size w w2 := hB01.trans (hB2.mono (by omega))
  clear ra1 rb1 hT1 hB01 hB2
  have HT1 : Hid (Text w2 M1 (Hx.encode l)) := hT1'
  have HT2 : Hid (Text w2 M2 (Hx.encode (l.set i v))) := hT2
  clear hT1' hT2
  go_wp2_with (refine wpList_load_row rfl 25 (Operand.tmp 3) rfl _ rfl 25 cs (0, 0) _ ?_ Try.underlying25 rfl (by rw [hs]; exact size25) ?_)
  · exact ra2
  refine (spells9 cs l HC.out M1 cap1 _ HT1.out).mono ?_
  rintro e w3 ⟨rfl, rfl⟩
  have hB3 : Below w2.heap.size w2 (w2.alloc (.cells cs 25)) := (Below.refl _ w2).alloc (Nat.le_refl _) _
  have HU1 : Hid (Text (w2.alloc (.cells cs 25)) M1 (Hx.encode l)) := text_below HT1.out hB3 (by omega)
  have HU2 : Hid (Text (w2.alloc (.cells cs 25)) M2 (Hx.encode (l.set i v))) := text_below HT2.out hB3 hM2'
  have hB03 : Below w.heap.size w (w2.alloc (.cells cs 25)) := hB02.trans (hB3.mono (by have := hB02.size; omega))
  clear HT1 HT2 ra2 hB02 hB3
  generalize w2.alloc (.cells cs 25) = w3 at HU1 HU2 hB03 ⊢
  have hlen : Hid ((Hx.encode l).length = 32) := encode_16 l HC.out.1
  have hlm : Hid ((Hx.encode (l.set i v)).length = 32) := encode_16 _ HM.out.1
  go_wp2
  go_loopw [12] (fun j wr => ∃ k : Nat, ∃ n : Nat, k ≤ 32 ∧ j = .int .i64 k ∧ wr = w3.drewN n) (fun j _ => 32 - (intOf j).toNat)
  case atStart => exact ⟨0, 0, Nat.zero_le _, rfl, rfl⟩
  case round =>
    obtain ⟨k, n, hk, rfl, rfl⟩ := hrel
    by_cases hlt : k < 32
    · by_cases hki : k = 2 * i
      · have hq : ((k : Int) == 2 * (i : Int)) = true := by rw [beq_iff_eq]; omega
        clear hki
        go_wp2
        go_roundw
        case rel => exact ⟨k + 1, _, by omega, by go_num, rfl⟩
        case measure => simp [intOf]; omega
      · have hq : ((k : Int) == 2 * (i : Int)) = false := by rw [beq_eq_false_iff_ne]; omega
        by_cases hki2 : k = 2 * i + 1
        · have hq2 : ((k : Int) == 2 * (i : Int) + 1) = true := by rw [beq_iff_eq]; omega
          clear hki hki2
          go_wp2
          go_roundw
          case rel => exact ⟨k + 1, _, by omega, by go_num, rfl⟩
          case measure => simp [intOf]; omega
        · have hq2 : ((k : Int) == 2 * (i : Int) + 1) = false := by rw [beq_eq_false_iff_ne]; omega
          have c1 := HU1.out k (by rw [hlen.out]; exact hlt)
          have c2 := HU2.out k (by rw [hlm.out]; exact hlt)
          rw [encode_set l i k v (by rw [HC.out.1]; omega) (by omega)] at c2
          generalize (((Hx.encode l)[k]'(by rw [hlen.out]; exact hlt)).toNat : Int) = x at c1 c2
          have hx : (x != x) = false := by simp
          clear hki hki2
          go_wp2
          go_quiet (fail)
          go_wp2
          go_roundw
          case rel => exact ⟨k + 1, _, by omega, by go_num, by first | rfl | (simp only [World.drewN_drewN]; rfl)⟩
          case measure => simp [intOf]; omega
    · have hil : i < (l.set i v).length := by rw [HM.out.1]; exact hi
      have p0 := HU2.out (2 * i) (by rw [hlm.out]; omega)
      have p1 := HU2.out (2 * i + 1) (by rw [hlm.out]; omega)
      rw [encode_hi _ i hil, List.getElem_set_self] at p0
      rw [encode_lo _ i hil, List.getElem_set_self] at p1
      have hvl := v.toNat_lt
      have hP := pair11 M2 32 cap2 (2 * i) (v.toNat / 16) (v.toNat % 16) (w3.drewN n) (by omega) (by omega) (by omega) (by omega) p0 p1
      have e1 : ((2 * i : Nat) : Int) = 2 * (i : Int) := by omega
      have e2 : v.toNat / 16 * 16 + v.toNat % 16 = v.toNat := by omega
      rw [e1, e2] at hP
      clear p0 p1 e1 e2
      have hvv : ((v.toNat : Int) == (v.toNat : Int)) = true := by simp
      go_wp2_with (go_at_call 11; refine hP.mono ?_; rintro e w' ⟨rfl, rfl⟩)
      go_ret
      exact ⟨rfl, below_drewN hB03 _⟩
end Go.Proofs.Qxb6616567a
