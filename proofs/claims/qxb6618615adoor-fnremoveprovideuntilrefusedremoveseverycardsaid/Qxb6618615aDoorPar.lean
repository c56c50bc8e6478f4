/-
  appendSigned's first region: five new rows in any order.
-/
import Derived.Test.Qxb6618615aDoorCaps
namespace Go.Proofs.Qxb6618615aDoor
open Go.RowKit Go.Lib
set_option linter.unusedVariables false
set_option linter.unusedSimpArgs false

def domain : List UInt8 := [111, 114, 114, 101, 114, 121, 32, 116, 111, 107, 101, 110, 32, 118, 49]

theorem wpOp_by {P : Program} {ops : Array Oper} {Q : Exit → Act → World → Prop} {i : Nat} {o : Oper} {K : Act → World → Prop} {a : Act} {w : World} (ho : ops[i]? = some o)
    (h : ∀ K' : Act → World → Prop, Shut (∀ a w, K a w → K' a w) → if Region.wanted o (yielded ops a.tmps) = true then Oper.wp P o a w K' Q else K' (a.put o.dst undef) w) : wpOp P ops Q i K a w := by
  have h1 := h K (fun _ _ h => h)
  unfold wpOp
  simp only [ho]
  split
  · rename_i hw
    rw [if_pos hw] at h1
    exact .inl h1
  · rename_i hw
    rw [if_neg hw] at h1
    exact h1

theorem cell_freeze (W : World) (a : Addr) (n : Nat) (x : Addr) : (W.freeze a n).cell? x = W.cell? x := by
  unfold World.freeze
  split
  · rfl
  · unfold World.cell?
    simp only [Array.getElem?_modify]
    by_cases h : a.block = x.block
    · rw [if_pos h]
      cases W.heap[x.block]? with
      | none => rfl
      | some o => cases o <;> rfl
    · rw [if_neg h]
theorem block_freeze (W : World) (a : Addr) (n k : Nat) (h : k ≠ a.block) : (W.freeze a n).heap[k]? = W.heap[k]? := by
  unfold World.freeze
  split
  · rfl
  · simp only [Array.getElem?_modify]
    rw [if_neg (fun e => h e.symm)]
theorem size_freeze (W : World) (a : Addr) (n : Nat) : (W.freeze a n).heap.size = W.heap.size := by
  unfold World.freeze
  split
  · rfl
  · simp
theorem rest_freeze (W : World) (a : Addr) (n : Nat) : (W.freeze a n).os = W.os ∧ (W.freeze a n).tape = W.tape ∧ (W.freeze a n).output = W.output := by
  unfold World.freeze
  split <;> exact ⟨rfl, rfl, rfl⟩
theorem row_freeze (W : World) (M n : Nat) (cs : Array Value) (e : TypeId) (fr : Nat × Nat) (h : W.heap[M]? = some (.cells cs e fr)) : ∃ fr', (W.freeze ⟨M, n, none⟩ 1).heap[M]? = some (.cells cs e fr') := by
  obtain ⟨lo, hi⟩ := fr
  refine ⟨(if (lo == hi) = true then (n, n + 1) else (min lo n, max hi (n + 1))), ?_⟩
  unfold World.freeze
  rw [if_neg (by decide)]
  simp only [Array.getElem?_modify, if_true, h, Option.map_some]
/-- The conversion of a constant's bytes: the row is marked, no cell turns. -/
theorem conv_same (M n c : Nat) (cs : Array Value) (e : TypeId) (fr : Nat × Nat) (W : World) (hM : W.heap[M]? = some (.cells cs e fr)) : (convert 24 24 (.slice (some ⟨M, 0, none⟩) n c)).run Tryd.prog W = .ok (.slice (some ⟨M, 0, none⟩) n c) (W.freeze ⟨M, cs.size, none⟩ 1) := by
  have hsh : W.shape? M = some (e, cs.size) := by simp [World.shape?, hM]
  simp [convert, run_underlying Tryd.underlying24, run_underlying Tryd.underlying5, markStringish, hsh]

/-- A new row of bytes, apart from the one's own. -/
def Fresh (b : Value) (W : World) (v : Value) (s : List UInt8) : Prop := SliceAt (fun x => x < W.heap.size ∧ b.ownBlock ≠ some x) W v (bv s)
theorem Fresh.on {b : Value} {W W' : World} {v : Value} {s : List UInt8} (h : Fresh b W v s) (hg : W.grownBy W' none) : Fresh b W' v s :=
  (SliceAt.kept h fun x hx => hg.block x hx.1 (by simp)).mono fun x hx => ⟨Nat.lt_of_lt_of_le hx.1 hg.size, hx.2⟩
theorem grown_trans {a b c : World} (h : a.grownBy b none) (k : b.grownBy c none) : a.grownBy c none :=
  ⟨k.os.trans h.os, k.tape.trans h.tape, k.output.trans h.output, Nat.le_trans h.size k.size, fun x hx hn => (k.block x (Nat.lt_of_lt_of_le hx h.size) hn).trans (h.block x hx hn)⟩

theorem Fresh.cells {b : Value} {W W' : World} {v : Value} {s : List UInt8} (h : Fresh b W v s) (hc : ∀ x, W'.cell? x = W.cell? x) (hs : W'.heap.size = W.heap.size) : Fresh b W' v s := by
  rcases h with h | ⟨M, o, c, rfl, hM, h⟩
  · exact .inl h
  · exact .inr ⟨M, o, c, rfl, ⟨by rw [hs]; exact hM.1, hM.2⟩, fun k hk => (hc _).trans (h k hk)⟩
/-- The constant's row. -/
def Dom (w0 : World) (b : Value) (W : World) (u : Value) : Prop := ∃ M cs e fr, u = .slice (some ⟨M, 0, none⟩) 15 15 ∧ w0.heap.size ≤ M ∧ W.heap[M]? = some (.cells cs e fr) ∧ Fresh b W u domain
theorem Dom.on {w0 : World} {b : Value} {W W' : World} {u : Value} (h : Dom w0 b W u) (hg : W.grownBy W' none) : Dom w0 b W' u := by
  obtain ⟨M, cs, e, fr, h1, h2, h3, h4⟩ := h
  exact ⟨M, cs, e, fr, h1, h2, (hg.block M (Array.getElem?_eq_some_iff.1 h3).1 (by simp)).trans h3, h4.on hg⟩

def Lst (l1 l2 l7 l12 l17 l22 : Bool) : Array Bool := #[true, l1, l2, true, true, true, true, l7, true, true, true, true, l12, true, true, true, true, l17, true, true, true, true, l22, false, false, false]
def rdy (l1 l2 l7 l12 l17 l22 : Bool) : List Nat := (if l1 then [] else [1]) ++ (if l1 && !l2 then [2] else []) ++ (if l7 then [] else [7]) ++ (if l12 then [] else [12]) ++ (if l17 then [] else [17]) ++ (if l22 then [] else [22]) ++ (if l2 && l7 && l12 && l17 && l22 then [23] else [])
def cnt (l1 l2 l7 l12 l17 l22 : Bool) : Nat := (if l1 then 0 else 1) + (if l2 then 0 else 1) + (if l7 then 0 else 1) + (if l12 then 0 else 1) + (if l17 then 0 else 1) + (if l22 then 0 else 1)

set_option maxHeartbeats 8000000 in
set_option maxRecDepth 100000 in
theorem par22 (ops : Array Oper) (Q : Exit → Act → World → Prop) (S : World → Prop) (b : Value) (w0 : World) (s7 s12 s17 s22 : ByteArray) (p0 p1 p2 p3 p4 p8 p9 p10 p13 p14 p15 p18 p19 p20 p23 p24 p25 p28 p29 p30 p31 p32 p33 p34 p35 p36 p37 p38 p39 p40 p41 p42 p43 p44 p45 p46 p47 p48 p49 p50 p51 p52 p53 p54 p55 p56 : Value)
    (o1 : ∃ ty pos af, ops[1]? = some { dst := some 6, op := .buildSlice 24 15 #[(0, .const (.int .u8 111)), (1, .const (.int .u8 114)), (2, .const (.int .u8 114)), (3, .const (.int .u8 101)), (4, .const (.int .u8 114)), (5, .const (.int .u8 121)), (6, .const (.int .u8 32)), (7, .const (.int .u8 116)), (8, .const (.int .u8 111)), (9, .const (.int .u8 107)), (10, .const (.int .u8 101)), (11, .const (.int .u8 110)), (12, .const (.int .u8 32)), (13, .const (.int .u8 118)), (14, .const (.int .u8 49))], type := ty, pos := pos, after := af, guard := none })
    (o2 : ∃ ty pos af, ops[2]? = some { dst := some 7, op := .convert 24 24 (.tmp 6), type := ty, pos := pos, after := af, guard := none })
    (o7 : ∃ ty pos af, ops[7]? = some { dst := some 12, op := .convert 42 24 (.tmp 11), type := ty, pos := pos, after := af, guard := none })
    (o12 : ∃ ty pos af, ops[12]? = some { dst := some 17, op := .convert 9 24 (.tmp 16), type := ty, pos := pos, after := af, guard := none })
    (o17 : ∃ ty pos af, ops[17]? = some { dst := some 22, op := .convert 9 24 (.tmp 21), type := ty, pos := pos, after := af, guard := none })
    (o22 : ∃ ty pos af, ops[22]? = some { dst := some 27, op := .convert 9 24 (.tmp 26), type := ty, pos := pos, after := af, guard := none })
    (hready : ∀ l1 l2 l7 l12 l17 l22 : Bool, Region.ready .any ops (Lst l1 l2 l7 l12 l17 l22) = rdy l1 l2 l7 l12 l17 l22)
    (hS : ∀ W, w0.grownBy W none → S W) (hbw : ∀ k, b.ownBlock = some k → k < w0.heap.size)
    (hend : ∀ u6 u7 u12 u17 u22 u27 W, w0.grownBy W none → Fresh b W u7 domain → Fresh b W u12 s7.data.toList → Fresh b W u17 s12.data.toList → Fresh b W u22 s17.data.toList → Fresh b W u27 s22.data.toList →
      wpAnyH Tryd.prog .any ops Q S 3 (Lst true true true true true true) { tmps := #[p0, p1, p2, p3, p4, b, u6, u7, p8, p9, p10, (.string s7), u12, p13, p14, p15, (.string s12), u17, p18, p19, p20, (.string s17), u22, p23, p24, p25, (.string s22), u27, p28, p29, p30, p31, p32, p33, p34, p35, p36, p37, p38, p39, p40, p41, p42, p43, p44, p45, p46, p47, p48, p49, p50, p51, p52, p53, p54, p55, p56], defers := [] } W) :
    ∀ (m : Nat) (l1 l2 l7 l12 l17 l22 : Bool) (u6 u7 u12 u17 u22 u27 : Value) (W : World), cnt l1 l2 l7 l12 l17 l22 = m → (l2 = true → l1 = true) → w0.grownBy W none →
      (l1 = true → Dom w0 b W u6) → (l2 = true → Fresh b W u7 domain) → (l7 = true → Fresh b W u12 s7.data.toList) → (l12 = true → Fresh b W u17 s12.data.toList) → (l17 = true → Fresh b W u22 s17.data.toList) → (l22 = true → Fresh b W u27 s22.data.toList) →
      wpAnyH Tryd.prog .any ops Q S (m + 3) (Lst l1 l2 l7 l12 l17 l22) { tmps := #[p0, p1, p2, p3, p4, b, u6, u7, p8, p9, p10, (.string s7), u12, p13, p14, p15, (.string s12), u17, p18, p19, p20, (.string s17), u22, p23, p24, p25, (.string s22), u27, p28, p29, p30, p31, p32, p33, p34, p35, p36, p37, p38, p39, p40, p41, p42, p43, p44, p45, p46, p47, p48, p49, p50, p51, p52, p53, p54, p55, p56], defers := [] } W := by
  intro m
  induction m with
  | zero =>
    intro l1 l2 l7 l12 l17 l22 u6 u7 u12 u17 u22 u27 W hc h12 hg f1 f2 f7 f12 f17 f22
    have hb : l1 = true ∧ l2 = true ∧ l7 = true ∧ l12 = true ∧ l17 = true ∧ l22 = true := by
      cases l1 <;> cases l2 <;> cases l7 <;> cases l12 <;> cases l17 <;> cases l22 <;> simp [cnt] at hc ⊢
    obtain ⟨rfl, rfl, rfl, rfl, rfl, rfl⟩ := hb
    exact hend u6 u7 u12 u17 u22 u27 W hg (f2 rfl) (f7 rfl) (f12 rfl) (f17 rfl) (f22 rfl)
  | succ m ih =>
    intro l1 l2 l7 l12 l17 l22 u6 u7 u12 u17 u22 u27 W hc h12 hg f1 f2 f7 f12 f17 f22
    have hsz := hg.size
    refine wpAnyH_all (hready l1 l2 l7 l12 l17 l22) ?_ ?_
    · cases l1 <;> cases l2 <;> cases l7 <;> cases l12 <;> cases l17 <;> cases l22 <;> simp [cnt] at hc ⊢ <;> simp [rdy]
    · intro i hi
      have hi' : (i = 1 ∧ l1 = false) ∨ (i = 2 ∧ l1 = true ∧ l2 = false) ∨ (i = 7 ∧ l7 = false) ∨ (i = 12 ∧ l12 = false) ∨ (i = 17 ∧ l17 = false) ∨ (i = 22 ∧ l22 = false) := by
        have hno : ¬ ((l2 && l7 && l12 && l17 && l22) = true) := by
          intro h
          cases l1 <;> cases l2 <;> cases l7 <;> cases l12 <;> cases l17 <;> cases l22 <;> simp [cnt] at hc h h12
        simp only [rdy, List.mem_append] at hi
        rw [if_neg hno] at hi
        rcases hi with (((((h | h) | h) | h) | h) | h) | h
        · cases l1 <;> simp at h; exact .inl ⟨h, rfl⟩
        · cases l1 <;> cases l2 <;> simp at h; exact .inr (.inl ⟨h, rfl, rfl⟩)
        · cases l7 <;> simp at h; exact .inr (.inr (.inl ⟨h, rfl⟩))
        · cases l12 <;> simp at h; exact .inr (.inr (.inr (.inl ⟨h, rfl⟩)))
        · cases l17 <;> simp at h; exact .inr (.inr (.inr (.inr (.inl ⟨h, rfl⟩))))
        · cases l22 <;> simp at h; exact .inr (.inr (.inr (.inr (.inr ⟨h, rfl⟩))))
        · cases h
      clear hi
      have I : Hid _ := ih
      clear ih
      rcases hi' with ⟨rfl, rfl⟩ | ⟨rfl, rfl, rfl⟩ | ⟨rfl, rfl⟩ | ⟨rfl, rfl⟩ | ⟨rfl, rfl⟩ | ⟨rfl, rfl⟩
      · obtain ⟨ty, pos, af, ho⟩ := o1
        have hg1 : W.grownBy (W.alloc (.cells (bv domain).toArray 5)) none := World.grownBy_alloc W _ none
        have hnew : Fresh b (W.alloc (.cells (bv domain).toArray 5)) (.slice (some ⟨W.heap.size, 0, none⟩) 15 15) domain := by
          refine .inr ⟨W.heap.size, 0, 15, rfl, ⟨by simp, fun e => by have := hbw _ e; omega⟩, fun k hk => ?_⟩
          rw [cell_of_row _ _ _ (bv domain).toArray 5 (0, 0) (heap_alloc_last W _), Nat.zero_add]
          simp [hk]
        refine wpOp_by ho (fun K hK => ?_)
        go_simp
        refine hK.out _ _ ⟨hS _ (grown_trans hg hg1), ?_⟩
        have hl2 : l2 = false := by cases l2 with | false => rfl | true => exact absurd (h12 rfl) (by simp)
        subst hl2
        exact I.out true false l7 l12 l17 l22 _ u7 u12 u17 u22 u27 _ (by simp [cnt] at hc ⊢; omega) (fun _ => rfl) (grown_trans hg hg1) (fun _ => ⟨W.heap.size, _, _, _, rfl, hsz, heap_alloc_last W _, hnew⟩) (fun h => absurd h (by simp)) (fun h => (f7 h).on hg1) (fun h => (f12 h).on hg1) (fun h => (f17 h).on hg1) (fun h => (f22 h).on hg1)
      · obtain ⟨ty, pos, af, ho⟩ := o2
        obtain ⟨M, cs, e, fr, rfl, hM, hrow, h6⟩ := f1 rfl
        have hcv := conv_same M 15 15 cs e fr W hrow
        have hcell := cell_freeze W ⟨M, cs.size, none⟩ 1
        have hsize := size_freeze W ⟨M, cs.size, none⟩ 1
        obtain ⟨r1, r2, r3⟩ := rest_freeze W ⟨M, cs.size, none⟩ 1
        have hg2 : w0.grownBy (W.freeze ⟨M, cs.size, none⟩ 1) none := ⟨r1.trans hg.os, r2.trans hg.tape, r3.trans hg.output, by omega, fun k hk hn => (block_freeze W _ 1 k (by show k ≠ M; omega)).trans (hg.block k hk hn)⟩
        obtain ⟨fr', hrow2⟩ := row_freeze W M cs.size cs e fr hrow
        refine wpOp_by ho (fun K hK => ?_)
        go_simp
        refine hK.out _ _ ⟨hS _ hg2, ?_⟩
        exact I.out true true l7 l12 l17 l22 _ _ u12 u17 u22 u27 _ (by simp [cnt] at hc ⊢; omega) (fun _ => rfl) hg2 (fun _ => ⟨M, cs, e, fr', rfl, hM, hrow2, h6.cells hcell hsize⟩) (fun _ => h6.cells hcell hsize) (fun h => (f7 h).cells hcell hsize) (fun h => (f12 h).cells hcell hsize) (fun h => (f17 h).cells hcell hsize) (fun h => (f22 h).cells hcell hsize)
      · obtain ⟨ty, pos, af, ho⟩ := o7
        obtain ⟨cc, w1, hrun, hs1, hg1, hb1⟩ := conv24 42 Tryd.underlying42 s7 W
        have hnew : Fresh b w1 (.slice (some ⟨W.heap.size, 0, none⟩) s7.size cc) s7.data.toList := hb1.mono fun x hx => by
          subst hx
          exact ⟨by omega, fun e => by have := hbw _ e; omega⟩
        refine wpOp_by ho (fun K hK => ?_)
        go_simp
        refine hK.out _ _ ⟨hS w1 (grown_trans hg hg1), ?_⟩
        exact I.out l1 l2 true l12 l17 l22 u6 u7 _ u17 u22 u27 w1 (by simp [cnt] at hc ⊢; omega) h12 (grown_trans hg hg1) (fun h => (f1 h).on hg1) (fun h => (f2 h).on hg1) (fun _ => hnew) (fun h => (f12 h).on hg1) (fun h => (f17 h).on hg1) (fun h => (f22 h).on hg1)
      · obtain ⟨ty, pos, af, ho⟩ := o12
        obtain ⟨cc, w1, hrun, hs1, hg1, hb1⟩ := conv24 9 Tryd.underlying9 s12 W
        have hnew : Fresh b w1 (.slice (some ⟨W.heap.size, 0, none⟩) s12.size cc) s12.data.toList := hb1.mono fun x hx => by
          subst hx
          exact ⟨by omega, fun e => by have := hbw _ e; omega⟩
        refine wpOp_by ho (fun K hK => ?_)
        go_simp
        refine hK.out _ _ ⟨hS w1 (grown_trans hg hg1), ?_⟩
        exact I.out l1 l2 l7 true l17 l22 u6 u7 u12 _ u22 u27 w1 (by simp [cnt] at hc ⊢; omega) h12 (grown_trans hg hg1) (fun h => (f1 h).on hg1) (fun h => (f2 h).on hg1) (fun h => (f7 h).on hg1) (fun _ => hnew) (fun h => (f17 h).on hg1) (fun h => (f22 h).on hg1)
      · obtain ⟨ty, pos, af, ho⟩ := o17
        obtain ⟨cc, w1, hrun, hs1, hg1, hb1⟩ := conv24 9 Tryd.underlying9 s17 W
        have hnew : Fresh b w1 (.slice (some ⟨W.heap.size, 0, none⟩) s17.size cc) s17.data.toList := hb1.mono fun x hx => by
          subst hx
          exact ⟨by omega, fun e => by have := hbw _ e; omega⟩
        refine wpOp_by ho (fun K hK => ?_)
        go_simp
        refine hK.out _ _ ⟨hS w1 (grown_trans hg hg1), ?_⟩
        exact I.out l1 l2 l7 l12 true l22 u6 u7 u12 u17 _ u27 w1 (by simp [cnt] at hc ⊢; omega) h12 (grown_trans hg hg1) (fun h => (f1 h).on hg1) (fun h => (f2 h).on hg1) (fun h => (f7 h).on hg1) (fun h => (f12 h).on hg1) (fun _ => hnew) (fun h => (f22 h).on hg1)
      · obtain ⟨ty, pos, af, ho⟩ := o22
        obtain ⟨cc, w1, hrun, hs1, hg1, hb1⟩ := conv24 9 Tryd.underlying9 s22 W
        have hnew : Fresh b w1 (.slice (some ⟨W.heap.size, 0, none⟩) s22.size cc) s22.data.toList := hb1.mono fun x hx => by
          subst hx
          exact ⟨by omega, fun e => by have := hbw _ e; omega⟩
        refine wpOp_by ho (fun K hK => ?_)
        go_simp
        refine hK.out _ _ ⟨hS w1 (grown_trans hg hg1), ?_⟩
        exact I.out l1 l2 l7 l12 l17 true u6 u7 u12 u17 u22 _ w1 (by simp [cnt] at hc ⊢; omega) h12 (grown_trans hg hg1) (fun h => (f1 h).on hg1) (fun h => (f2 h).on hg1) (fun h => (f7 h).on hg1) (fun h => (f12 h).on hg1) (fun h => (f17 h).on hg1) (fun _ => hnew)

set_option maxRecDepth 100000 in
theorem par22b {ops : Array Oper} {Q : Exit → Act → World → Prop} {S : World → Prop} {listed : Array Bool} {b : Value} {w0 : World} {s7 s12 s17 s22 : ByteArray} {p0 p1 p2 p3 p4 p8 p9 p10 p13 p14 p15 p18 p19 p20 p23 p24 p25 p28 p29 p30 p31 p32 p33 p34 p35 p36 p37 p38 p39 p40 p41 p42 p43 p44 p45 p46 p47 p48 p49 p50 p51 p52 p53 p54 p55 p56 u6 u7 u12 u17 u22 u27 : Value} (hl : listed = Lst false false false false false false)
    (o1 : ∃ ty pos af, ops[1]? = some { dst := some 6, op := .buildSlice 24 15 #[(0, .const (.int .u8 111)), (1, .const (.int .u8 114)), (2, .const (.int .u8 114)), (3, .const (.int .u8 101)), (4, .const (.int .u8 114)), (5, .const (.int .u8 121)), (6, .const (.int .u8 32)), (7, .const (.int .u8 116)), (8, .const (.int .u8 111)), (9, .const (.int .u8 107)), (10, .const (.int .u8 101)), (11, .const (.int .u8 110)), (12, .const (.int .u8 32)), (13, .const (.int .u8 118)), (14, .const (.int .u8 49))], type := ty, pos := pos, after := af, guard := none })
    (o2 : ∃ ty pos af, ops[2]? = some { dst := some 7, op := .convert 24 24 (.tmp 6), type := ty, pos := pos, after := af, guard := none })
    (o7 : ∃ ty pos af, ops[7]? = some { dst := some 12, op := .convert 42 24 (.tmp 11), type := ty, pos := pos, after := af, guard := none })
    (o12 : ∃ ty pos af, ops[12]? = some { dst := some 17, op := .convert 9 24 (.tmp 16), type := ty, pos := pos, after := af, guard := none })
    (o17 : ∃ ty pos af, ops[17]? = some { dst := some 22, op := .convert 9 24 (.tmp 21), type := ty, pos := pos, after := af, guard := none })
    (o22 : ∃ ty pos af, ops[22]? = some { dst := some 27, op := .convert 9 24 (.tmp 26), type := ty, pos := pos, after := af, guard := none })
    (hready : ∀ l1 l2 l7 l12 l17 l22 : Bool, Region.ready .any ops (Lst l1 l2 l7 l12 l17 l22) = rdy l1 l2 l7 l12 l17 l22)
    (hS : ∀ W, w0.grownBy W none → S W) (hbw : ∀ k, b.ownBlock = some k → k < w0.heap.size)
    (hend : ∀ u6 u7 u12 u17 u22 u27 W, w0.grownBy W none → Fresh b W u7 domain → Fresh b W u12 s7.data.toList → Fresh b W u17 s12.data.toList → Fresh b W u22 s17.data.toList → Fresh b W u27 s22.data.toList →
      wpAnyH Tryd.prog .any ops Q S 3 (Lst true true true true true true) { tmps := #[p0, p1, p2, p3, p4, b, u6, u7, p8, p9, p10, (.string s7), u12, p13, p14, p15, (.string s12), u17, p18, p19, p20, (.string s17), u22, p23, p24, p25, (.string s22), u27, p28, p29, p30, p31, p32, p33, p34, p35, p36, p37, p38, p39, p40, p41, p42, p43, p44, p45, p46, p47, p48, p49, p50, p51, p52, p53, p54, p55, p56], defers := [] } W) :
    wpAnyH Tryd.prog .any ops Q S 9 listed { tmps := #[p0, p1, p2, p3, p4, b, u6, u7, p8, p9, p10, (.string s7), u12, p13, p14, p15, (.string s12), u17, p18, p19, p20, (.string s17), u22, p23, p24, p25, (.string s22), u27, p28, p29, p30, p31, p32, p33, p34, p35, p36, p37, p38, p39, p40, p41, p42, p43, p44, p45, p46, p47, p48, p49, p50, p51, p52, p53, p54, p55, p56], defers := [] } w0 := by
  subst hl
  exact par22 ops Q S b w0 s7 s12 s17 s22 p0 p1 p2 p3 p4 p8 p9 p10 p13 p14 p15 p18 p19 p20 p23 p24 p25 p28 p29 p30 p31 p32 p33 p34 p35 p36 p37 p38 p39 p40 p41 p42 p43 p44 p45 p46 p47 p48 p49 p50 p51 p52 p53 p54 p55 p56 o1 o2 o7 o12 o17 o22 hready hS hbw hend 6 false false false false false false u6 u7 u12 u17 u22 u27 w0 rfl (fun h => absurd h (by simp)) ⟨rfl, rfl, rfl, Nat.le_refl _, fun _ _ _ => rfl⟩ (fun h => absurd h (by simp)) (fun h => absurd h (by simp)) (fun h => absurd h (by simp)) (fun h => absurd h (by simp)) (fun h => absurd h (by simp)) (fun h => absurd h (by simp))
end Go.Proofs.Qxb6618615aDoor
