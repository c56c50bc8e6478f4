/-
  zzCloneBytes, zzCloneStrings.
-/
import Derived.Test.Qxb6618615aDoorBase
import Derived.Lib.SliceRun
import Derived.Laws.MakeOwn
namespace Go.Proofs.Qxb6618615aDoor
open Go.RowKit Go.Lib
attribute [local go_sem] Go.Lib.run_eql_slice_nil

/-- The blocks that a call has made. -/
def New (w w' : World) : Nat → Prop := fun b => w.heap.size ≤ b ∧ b < w'.heap.size

/-- A new row that is being filled. -/
def Filling (w wr : World) (xs : List Value) (k : Nat) : Prop :=
  wr.heap.size = w.heap.size + 1 ∧ Below w.heap.size w wr ∧ (∀ j (h : j < xs.length), ∃ u, wr.cell? ⟨w.heap.size, j, none⟩ = some u ∧ (j < k → u = xs[j]'h)) ∧ ∀ j, wr.frozen? ⟨w.heap.size, j, none⟩ = false
theorem filling_start (w : World) (xs : List Value) (cs : Array Value) (e : TypeId) (h : cs.size = xs.length) : Filling w (w.alloc (.cells cs e)) xs 0 := by
  refine ⟨by simp, (Below.refl _ w).alloc (Nat.le_refl _) _, fun j hj => ?_, fun j => ?_⟩
  · refine ⟨cs[j]'(by omega), ?_, fun h => absurd h (by omega)⟩
    rw [cell_of_row _ _ _ cs e (0, 0) (heap_alloc_last w _)]
    simp [h, hj]
  · unfold World.frozen?
    rw [heap_alloc_last]
    simp
theorem Filling.step {w wr : World} {xs : List Value} {k : Nat} (h : Filling w wr xs k) (hk : k < xs.length) : Filling w (wr.setCell ⟨w.heap.size, k, none⟩ (xs[k]'hk)) xs (k + 1) := by
  obtain ⟨h1, h2, h3, h4⟩ := h
  refine ⟨by simp [h1], h2.setCell (Nat.le_refl _) _, fun j hj => ?_, fun j => by simp [h4 j]⟩
  by_cases e : j = k
  · subst e
    obtain ⟨u, hu, _⟩ := h3 j hj
    exact ⟨_, World.cell?_setCell_same _ _ _ hu, fun _ => rfl⟩
  · obtain ⟨u, hu, hu2⟩ := h3 j hj
    refine ⟨u, ?_, fun h => hu2 (by omega)⟩
    rw [World.cell?_setCell_other]
    · exact hu
    · intro e2
      have := congrArg Addr.off e2
      simp at this
      omega
theorem Filling.done {w wr : World} {xs : List Value} {k : Nat} (h : Filling w wr xs k) (hk : xs.length ≤ k) : SliceAt (New w wr) wr (.slice (some ⟨w.heap.size, 0, none⟩) xs.length xs.length) xs := by
  obtain ⟨h1, h2, h3, h4⟩ := h
  refine .inr ⟨w.heap.size, 0, _, rfl, ⟨Nat.le_refl _, by omega⟩, fun j hj => ?_⟩
  obtain ⟨u, hu, hu2⟩ := h3 j hj
  rw [Nat.zero_add, hu, hu2 (by omega)]
theorem Filling.cell {w wr : World} {xs : List Value} {k j : Nat} (h : Filling w wr xs k) (hj : j < xs.length) : ∃ u, wr.cell? ⟨w.heap.size, j, none⟩ = some u := by
  obtain ⟨u, hu, _⟩ := h.2.2.1 j hj
  exact ⟨u, hu⟩

theorem info5 : ∃ i, Tryd.prog.info? 5 = some i ∧ i.zero = some (.int .u8 0) ∧ i.size = 1 ∧ i.bytes = 1 := by
  have h : (Tryd.prog.info? 5).map (fun i => (i.zero, i.size, i.bytes)) = some (some (.int .u8 0), 1, 1) := by kernel_rfl
  obtain ⟨i, h1, h2⟩ := Option.map_eq_some_iff.1 h
  simp only [Prod.mk.injEq] at h2
  exact ⟨i, h1, h2⟩
theorem make24 (n : Nat) (h : n ≤ 1048576) (w : World) : ∃ cs : Array Value, cs.size = n ∧ (Instr.makeSlice 24 (.int .i64 (n : Int)) (.int .i64 (n : Int))).run Tryd.prog w = .ok (.slice (some ⟨w.heap.size, 0, none⟩) n n) (w.alloc (.cells cs 5)) := by
  obtain ⟨i, h1, h2, h3, h4⟩ := info5
  have h5 := run_make w 24 5 i _ Tryd.underlying24 h1 h2 .i64 .i64 (n : Int) (n : Int) (by omega) (by omega) (by rw [h4]; omega) (by omega)
  refine ⟨_, ?_, h5⟩
  rw [h3]
  simp [madeCells, Value.cells]

set_option maxRecDepth 100000 in
set_option maxHeartbeats 4000000 in
theorem clone12 (ok : Nat → Prop) (l : List UInt8) (v : Value) (w : World) (hok : ∀ b, ok b → b < w.heap.size) (hl : l.length ≤ 1048576) (s1 : SliceAt ok w v (bv l)) :
    Calls Tryd.prog 12 #[v] w fun e w' => ∃ v', e = .returned v' ∧ SliceAt (New w w') w' v' (bv l) ∧ Below w.heap.size w w' := by
  have hlen : (bv l).length = l.length := bv_length l
  obtain ⟨p1, c1, rfl, h1⟩ := s1.bytes
  clear s1
  cases p1 with
  | none =>
    have hl0 : l = [] := by
      by_cases h0 : 0 < l.length
      · obtain ⟨_, _, h, _⟩ := h1 h0
        cases h
      · exact List.eq_nil_of_length_eq_zero (by omega)
    subst hl0
    clear h1
    simp only [List.length_nil]
    go_enter Tryd.func12, Tryd.ntmps12
    go_wp2
    go_ret
    exact ⟨_, rfl, .inl ⟨rfl, _, _, rfl, fun _ => rfl⟩, Below.refl _ _⟩
  | some a =>
    obtain ⟨len, HL⟩ : ∃ len, Hid (l.length = len) := ⟨_, rfl⟩
    obtain ⟨cs, hcs, hmk⟩ := make24 l.length hl w
    have HS : Hid _ := filling_start w (bv l) cs 5 (by rw [hlen, hcs])
    rw [HL.out] at hl hmk ⊢
    have H1 : Hid _ := h1
    have HC : Hid ((bv l).length = len) := hlen.trans HL.out
    clear h1 hcs hlen
    go_enter Tryd.func12, Tryd.ntmps12
    go_wp2
    go_loopw [4] (fun i wr => ∃ k : Nat, i = .int .i64 k ∧ k ≤ len ∧ Hid (Filling w wr (bv l) k)) (fun i _ => len - (intOf i).toNat)
    case atStart => exact ⟨0, rfl, Nat.zero_le _, HS⟩
    case round =>
      obtain ⟨k, rfl, hk, HR⟩ := hrel
      by_cases hlt : k < len
      · have hkl : k < l.length := by rw [HL.out]; exact hlt
        have hkv : k < (bv l).length := by rw [HC.out]; exact hlt
        obtain ⟨M, o, e, hM, g⟩ := H1.out (by omega)
        obtain rfl := Option.some.inj e
        have c1 := (HR.out.2.1.cell (p := ⟨M, o + k, none⟩) (hok M hM)).trans (g k hkl)
        obtain ⟨u, c2⟩ := HR.out.cell hkv
        have c3 := HR.out.2.2.2 k
        have HN := HR.out.step hkv
        rw [bv_get] at HN
        have HN' : Hid _ := HN
        clear HN H1 g e
        go_wp2
        exact ⟨⟨k + 1, by go_num, by omega, HN'.out⟩, by simp [intOf]; omega⟩
      · have HD := HR.out.done (by rw [HC.out]; omega)
        have HB := HR.out.2.1
        rw [HC.out] at HD
        have HD' : Hid _ := HD
        clear HD
        go_wp2
        go_ret
        exact ⟨_, rfl, HD'.out, HB⟩

theorem info9 : ∃ i, Tryd.prog.info? 9 = some i ∧ i.zero = some (.string ByteArray.empty) ∧ i.size = 1 ∧ i.bytes = 16 := by
  have h : (Tryd.prog.info? 9).map (fun i => (i.zero, i.size, i.bytes)) = some (some (.string ByteArray.empty), 1, 16) := by kernel_rfl
  obtain ⟨i, h1, h2⟩ := Option.map_eq_some_iff.1 h
  simp only [Prod.mk.injEq] at h2
  exact ⟨i, h1, h2⟩
theorem make23 (n : Nat) (h : n ≤ 1048576) (w : World) : ∃ cs : Array Value, cs.size = n ∧ (Instr.makeSlice 23 (.int .i64 (n : Int)) (.int .i64 (n : Int))).run Tryd.prog w = .ok (.slice (some ⟨w.heap.size, 0, none⟩) n n) (w.alloc (.cells cs 9)) := by
  obtain ⟨i, h1, h2, h3, h4⟩ := info9
  have h5 := run_make w 23 9 i _ Tryd.underlying23 h1 h2 .i64 .i64 (n : Int) (n : Int) (by omega) (by omega) (by rw [h4]; omega) (by omega)
  refine ⟨_, ?_, h5⟩
  rw [h3]
  simp [madeCells, Value.cells]

set_option maxRecDepth 100000 in
set_option maxHeartbeats 4000000 in
theorem clone11 (ok : Nat → Prop) (l : List ByteArray) (v : Value) (w : World) (hok : ∀ b, ok b → b < w.heap.size) (hl : l.length ≤ 1048576) (s1 : SliceAt ok w v (sv l)) :
    Calls Tryd.prog 11 #[v] w fun e w' => ∃ v', e = .returned v' ∧ SliceAt (New w w') w' v' (sv l) ∧ Below w.heap.size w w' := by
  have hlen : (sv l).length = l.length := sv_length l
  obtain ⟨p1, c1, rfl, h1⟩ := s1.strs
  clear s1
  cases p1 with
  | none =>
    have hl0 : l = [] := by
      by_cases h0 : 0 < l.length
      · obtain ⟨_, _, h, _⟩ := h1 h0
        cases h
      · exact List.eq_nil_of_length_eq_zero (by omega)
    subst hl0
    clear h1
    simp only [List.length_nil]
    go_enter Tryd.func11, Tryd.ntmps11
    go_wp2
    go_ret
    exact ⟨_, rfl, .inl ⟨rfl, _, _, rfl, fun _ => rfl⟩, Below.refl _ _⟩
  | some a =>
    obtain ⟨len, HL⟩ : ∃ len, Hid (l.length = len) := ⟨_, rfl⟩
    obtain ⟨cs, hcs, hmk⟩ := make23 l.length hl w
    have HS : Hid _ := filling_start w (sv l) cs 9 (by rw [hlen, hcs])
    rw [HL.out] at hl hmk ⊢
    have H1 : Hid _ := h1
    have HC : Hid ((sv l).length = len) := hlen.trans HL.out
    clear h1 hcs hlen
    go_enter Tryd.func11, Tryd.ntmps11
    go_wp2
    go_loopw [4] (fun i wr => ∃ k : Nat, i = .int .i64 k ∧ k ≤ len ∧ Hid (Filling w wr (sv l) k)) (fun i _ => len - (intOf i).toNat)
    case atStart => exact ⟨0, rfl, Nat.zero_le _, HS⟩
    case round =>
      obtain ⟨k, rfl, hk, HR⟩ := hrel
      by_cases hlt : k < len
      · have hkl : k < l.length := by rw [HL.out]; exact hlt
        have hkv : k < (sv l).length := by rw [HC.out]; exact hlt
        obtain ⟨M, o, e, hM, g⟩ := H1.out (by omega)
        obtain rfl := Option.some.inj e
        have c1 := (HR.out.2.1.cell (p := ⟨M, o + k, none⟩) (hok M hM)).trans (g k hkl)
        obtain ⟨u, c2⟩ := HR.out.cell hkv
        have c3 := HR.out.2.2.2 k
        have HN := HR.out.step hkv
        rw [sv_get] at HN
        have HN' : Hid _ := HN
        clear HN H1 g e
        go_wp2
        exact ⟨⟨k + 1, by go_num, by omega, HN'.out⟩, by simp [intOf]; omega⟩
      · have HD := HR.out.done (by rw [HC.out]; omega)
        have HB := HR.out.2.1
        rw [HC.out] at HD
        have HD' : Hid _ := HD
        clear HD
        go_wp2
        go_ret
        exact ⟨_, rfl, HD'.out, HB⟩
end Go.Proofs.Qxb6618615aDoor
