/-
  zzToOrreryList: the row of copies.
-/
import Derived.Test.Qxb6618615aDoorOrr
import Derived.Test.Qxb6618615aDoorSizes
namespace Go.Proofs.Qxb6618615aDoor
open Go.RowKit Go.Lib
attribute [local go_sem] Go.Lib.run_eql_slice_nil

theorem heap_setCell_row {w : World} {b o : Nat} {v : Value} {cs : Array Value} {e : TypeId} {fr : Nat × Nat} (h : w.heap[b]? = some (.cells cs e fr)) :
    (w.setCell ⟨b, o, none⟩ v).heap[b]? = some (.cells (cs.setIfInBounds o v) e fr) := by
  simp [World.setCell, Array.getElem?_modify, h]
theorem heap_setCells_row (b : Nat) : ∀ (vs : List Value) (o : Nat) (w : World) (cs : Array Value) (e : TypeId) (fr : Nat × Nat), w.heap[b]? = some (.cells cs e fr) →
    ∃ cs' : Array Value, cs'.size = cs.size ∧ (w.setCells b o vs).heap[b]? = some (.cells cs' e fr)
  | [], _, _, cs, _, _, h => ⟨cs, rfl, h⟩
  | v :: r, o, w, cs, e, fr, h => by
    obtain ⟨cs', h1, h2⟩ := heap_setCells_row b r (o + 1) (w.setCell ⟨b, o, none⟩ v) _ e fr (heap_setCell_row h)
    exact ⟨cs', by rw [h1]; simp, h2⟩
theorem heap_setCells_other (b : Nat) : ∀ (vs : List Value) (o : Nat) (w : World) (k : Nat), k ≠ b → (w.setCells b o vs).heap[k]? = w.heap[k]?
  | [], _, _, _, _ => rfl
  | v :: r, o, w, k, h => by
    rw [World.setCells, heap_setCells_other b r (o + 1) _ k h]
    exact Below.heap_setCell w ⟨b, o, none⟩ v k h
theorem below_setCells {B : Nat} {a : World} (b : Nat) (hb : B ≤ b) : ∀ (vs : List Value) (o : Nat) (w : World), Below B a w → Below B a (w.setCells b o vs)
  | [], _, _, h => h
  | v :: r, o, _, h => below_setCells b hb r (o + 1) _ (h.setCell (p := ⟨b, o, none⟩) hb v)
theorem size_setCells (b : Nat) : ∀ (vs : List Value) (o : Nat) (w : World), (w.setCells b o vs).heap.size = w.heap.size
  | [], _, _ => rfl
  | v :: r, o, w => by rw [World.setCells, size_setCells b r (o + 1)]; simp

/-- What a pointer to a token points at. -/
theorem TokAt.row {ok : Nat → Prop} {w : World} {t : List Lvl} {q : Option Addr} (h : TokAt ok w t (.pointer q)) (ht : t ≠ []) :
    ∃ M o row, q = some ⟨M, o, none⟩ ∧ ok M ∧ w.rangeAt M o row ∧ RowAt ok w t row := by
  cases t with
  | nil => exact absurd rfl ht
  | cons L r =>
    obtain ⟨M, o, vc, vn, vp, vs, hv, hM, c0, c1, c2, c3, c4, c5, c6, c7, c8, c9, h1, h2, h3, h4⟩ := h
    refine ⟨M, o, rowOf L vc vn vp vs, by injection hv, hM, ?_, L, r, vc, vn, vp, vs, rfl, rfl, h1, h2, h3, h4⟩
    intro j v hj
    rcases j with _ | _ | _ | _ | _ | _ | _ | _ | _ | _ | j <;> first | (obtain rfl := Option.some.inj hj; assumption) | (simp [rowOf] at hj)
theorem TokAt.pointer {ok : Nat → Prop} {w : World} {t : List Lvl} {v : Value} (h : TokAt ok w t v) : ∃ q, v = .pointer q := by
  cases t with
  | nil => exact ⟨_, h⟩
  | cons L r => obtain ⟨M, o, vc, vn, vp, vs, hv, _⟩ := h; exact ⟨_, hv⟩
theorem RowAt.length {ok : Nat → Prop} {w : World} {t : List Lvl} {row : List Value} (h : RowAt ok w t row) : row.length = 10 := by
  obtain ⟨L, r, vc, vn, vp, vs, _, rfl, _⟩ := h
  rfl
theorem RowAt.one {ok : Nat → Prop} {w : World} {t : List Lvl} {row : List Value} (h : RowAt ok w t row) : ∀ v ∈ row, v.oneCell' = true := by
  obtain ⟨L, r, vc, vn, vp, vs, _, rfl, h1, h2, h3, h4⟩ := h
  obtain ⟨_, _, rfl, _⟩ := h1.shape
  obtain ⟨_, _, rfl, _⟩ := h2.shape
  obtain ⟨_, _, rfl, _⟩ := h3.shape
  obtain ⟨q, rfl⟩ := h4.pointer
  intro v hv
  simp [rowOf] at hv
  rcases hv with rfl | rfl | rfl | rfl | rfl | rfl | rfl | rfl | rfl | rfl <;> rfl
theorem Tryd.size44 : (Tryd.prog.info? 44).map (·.size) = some 10 := by kernel_rfl

/-- The row of an Anchors' tokens, in block B. -/
def RowsAt (ok : Nat → Prop) (w : World) (B cap : Nat) (ts : List (List Lvl)) : Prop :=
  ∃ cs : Array Value, w.heap[B]? = some (.cells cs 44 (0, 0)) ∧ cs.size = cap * 10 ∧ ts.length ≤ cap ∧ ∀ j (h : j < ts.length), ∃ row, RowAt ok w (ts[j]'h) row ∧ w.rangeAt B (j * 10) row
theorem RowsAt.there {ok : Nat → Prop} {w : World} {B cap : Nat} {ts : List (List Lvl)} (h : RowsAt ok w B cap ts) (k : Nat) (hk : k < cap) : w.there B (k * 10) 10 := by
  obtain ⟨cs, h1, h2, _⟩ := h
  intro j hj
  rw [cell_of_row _ _ _ cs 44 (0, 0) h1]
  refine ⟨?_, ?_⟩
  · rw [Array.getElem?_eq_getElem (by omega)]; rfl
  · unfold World.frozen?
    rw [h1]; simp
theorem rangeAt_block {w w' : World} {b o : Nat} {cs : List Value} (h : w.rangeAt b o cs) (hb : w'.heap[b]? = w.heap[b]?) : w'.rangeAt b o cs := fun j v hv => (World.cell?_of_block (a := ⟨b, o + j, none⟩) hb).trans (h j v hv)
theorem RowsAt.kept {ok ok' : Nat → Prop} {w w' : World} {B cap : Nat} {ts : List (List Lvl)} (h : RowsAt ok w B cap ts) (hk : Kept ok w w') (hB : w'.heap[B]? = w.heap[B]?) (hm : ∀ b, ok b → ok' b) : RowsAt ok' w' B cap ts := by
  obtain ⟨cs, h1, h2, h3, h4⟩ := h
  refine ⟨cs, hB.trans h1, h2, h3, fun j hj => ?_⟩
  obtain ⟨row, r1, r2⟩ := h4 j hj
  exact ⟨row, (r1.kept hk).mono hm, rangeAt_block r2 hB⟩
/-- One more row is stored. -/
theorem RowsAt.more {ok : Nat → Prop} {w : World} {B cap : Nat} {ts : List (List Lvl)} (h : RowsAt ok w B cap ts) (hB : ¬ ok B) (hc : ts.length < cap) {t : List Lvl} {row : List Value} (hr : RowAt ok w t row) :
    RowsAt ok (w.setCells B (ts.length * 10) row) B cap (ts ++ [t]) := by
  have ht := h.there ts.length hc
  obtain ⟨cs, h1, h2, h3, h4⟩ := h
  obtain ⟨cs', g1, g2⟩ := heap_setCells_row B row (ts.length * 10) w cs 44 (0, 0) h1
  have hk : Kept ok w (w.setCells B (ts.length * 10) row) := fun b hb => heap_setCells_other B row _ w b fun e => hB (e ▸ hb)
  refine ⟨cs', g2, by rw [g1, h2], by simp; omega, fun j hj => ?_⟩
  by_cases e : j < ts.length
  · obtain ⟨row', r1, r2⟩ := h4 j e
    rw [List.getElem_append_left e]
    refine ⟨row', r1.kept hk, World.rangeAt_setCells_apart r2 B _ row (.inr (.inl ?_))⟩
    rw [r1.length]; omega
  · have e2 : j = ts.length := by simp at hj; omega
    subst e2
    refine ⟨row, ?_, World.rangeAt_setCells_same w B _ row (by rw [hr.length]; exact ht)⟩
    simpa using hr.kept hk

theorem load44 {ops : Array Oper} {rest : List Oper} {a : Act} {Q : Exit → Act → World → Prop} {d : Option Tmp} {x : Operand} {pos : String} {af : Array Edge} (w : World) (M o : Nat) (row : List Value) (hr : w.rangeAt M o row) (hl : row.length = 10)
    (hx : a.eval x = .pointer (some ⟨M, o, none⟩))
    (h : wpList Tryd.prog ops Q rest (a.put d (.agg row.toArray)) w) :
    wpList Tryd.prog ops Q ({ dst := d, op := .load 44 x, type := 44, pos := pos, after := af, guard := none } :: rest) a w :=
  wpList_load_mid rfl 44 x rfl M o hx row _ hr Tryd.underlying44 rfl (by rw [hl]; exact Tryd.size44) h
theorem store44 {ops : Array Oper} {rest : List Oper} {a : Act} {Q : Exit → Act → World → Prop} {x y : Operand} {pos : String} {af : Array Edge} (w : World) (M o : Nat) (row : List Value) (ht : w.there M o 10) (hl : row.length = 10) (h1 : ∀ v ∈ row, v.oneCell' = true)
    (hx : a.eval x = .pointer (some ⟨M, o, none⟩)) (hy : a.eval y = .agg row.toArray)
    (h : wpList Tryd.prog ops Q rest (a.put none undef) (w.setCells M o row)) :
    wpList Tryd.prog ops Q ({ dst := none, op := .store 44 x y, type := 0, pos := pos, after := af, guard := none } :: rest) a w :=
  wpList_store_mid rfl 44 x y rfl M o row.toArray hx hy (by simpa [hl] using ht) (by simpa [hl] using Tryd.size44) (all_oneCell_toArray h1) (by simpa using h)

/-- An Anchors' slice of tokens. -/
def ProvAt (lo hi : Nat) (w : World) (v : Value) (ts : List (List Lvl)) : Prop :=
  (v = .slice none 0 0 ∧ ts = []) ∨ ∃ B cap, v = .slice (some ⟨B, 0, none⟩) ts.length cap ∧ lo ≤ B ∧ B < hi ∧ RowsAt (fun b => b < hi ∧ b ≠ B) w B cap ts

theorem info44 : ∃ i z, Tryd.prog.info? 44 = some i ∧ i.zero = some z ∧ i.size = 10 ∧ i.bytes = 160 := by
  have h : (Tryd.prog.info? 44).map (fun i => (i.zero.isSome, i.size, i.bytes)) = some (true, 10, 160) := by kernel_rfl
  obtain ⟨i, h1, h2⟩ := Option.map_eq_some_iff.1 h
  simp only [Prod.mk.injEq] at h2
  obtain ⟨z, hz⟩ := Option.isSome_iff_exists.1 h2.1
  exact ⟨i, z, h1, hz, h2.2⟩
theorem make31 (n : Nat) (h : n ≤ 1048576) (w : World) : ∃ cs : Array Value, cs.size = n * 10 ∧ (Instr.makeSlice 31 (.int .i64 (n : Int)) (.int .i64 (n : Int))).run Tryd.prog w = .ok (.slice (some ⟨w.heap.size, 0, none⟩) n n) (w.alloc (.cells cs 44)) := by
  obtain ⟨i, z, h1, h2, h3, h4⟩ := info44
  have h5 := run_make w 31 44 i z Tryd.underlying31 h1 h2 .i64 .i64 (n : Int) (n : Int) (by omega) (by omega) (by rw [h4]; omega) (by omega)
  refine ⟨_, ?_, h5⟩
  rw [h3]
  simp [madeCells]

set_option maxRecDepth 100000 in
set_option maxHeartbeats 4000000 in
theorem list6 (ok : Nat → Prop) (ts : List (List Lvl)) (v : Value) (w : World) (hts : ToksAt ok w v ts) (hok : ∀ b, ok b → b < w.heap.size) (hf : ∀ t ∈ ts, tokFits t) (hl : ts.length ≤ 1024) :
    Calls Tryd.prog 6 #[v] w fun e w' => ∃ v', e = .returned v' ∧ Below w.heap.size w w' ∧ ProvAt w.heap.size w'.heap.size w' v' ts := by
  obtain ⟨p, c, rfl, h0, h1⟩ := hts
  cases p with
  | none =>
    obtain ⟨rfl, h2⟩ := h0 rfl
    have HE : Hid (ts = []) := List.eq_nil_of_length_eq_zero h2
    rw [h2]
    clear h1 h0 hf hl h2
    go_enter Tryd.func6, Tryd.ntmps6
    go_wp2
    go_ret
    exact ⟨_, rfl, Below.refl _ _, .inl ⟨rfl, HE.out⟩⟩
  | some a =>
    clear h0
    obtain ⟨len, HL⟩ : ∃ len, Hid (ts.length = len) := ⟨_, rfl⟩
    obtain ⟨cs, hcs, hmk⟩ := make31 ts.length (by omega) w
    have HS : Hid _ := hcs
    rw [HL.out] at hl hmk ⊢
    have H1 : Hid _ := h1
    have HF : Hid _ := hf
    have HK : Hid _ := hok
    clear h1 hcs hf hok
    go_enter Tryd.func6, Tryd.ntmps6
    go_wp2
    go_loopw [4] (fun i wr => ∃ k : Nat, i = .int .i64 k ∧ k ≤ len ∧ Below w.heap.size w wr ∧ w.heap.size < wr.heap.size ∧ Hid (RowsAt (fun b => b < wr.heap.size ∧ b ≠ w.heap.size) wr w.heap.size len (ts.take k))) (fun i _ => len - (intOf i).toNat)
    case atStart =>
      refine ⟨0, rfl, Nat.zero_le _, (Below.refl _ w).alloc (Nat.le_refl _) _, by simp, ?_⟩
      exact ⟨cs, heap_alloc_last w _, by rw [HS.out, HL.out], by simp, fun j hj => absurd hj (by simp)⟩
    case round =>
      obtain ⟨k, rfl, hk, hb, hsz, HR⟩ := hrel
      by_cases hlt : k < len
      · have hkl : k < ts.length := by rw [HL.out]; exact hlt
        obtain ⟨M, o, e, hM, g⟩ := H1.out (by omega)
        obtain rfl := Option.some.inj e
        have hok' : ∀ b, ok b → b < _ := fun b h => Nat.lt_of_lt_of_le (HK.out b h) hb.size
        have G : Hid _ := TokAt.kept (kept_of_below hb HK.out) (g k hkl)
        have HFk : Hid _ := HF.out _ (List.getElem_mem hkl)
        clear g e H1
        go_wp2_with fail
        refine (orr7 ok (ts[k]'hkl) _ _ _ hok' HFk.out G.out (Below.refl _ _)).mono ?_
        rintro e w1 ⟨q, rfl, p1, q1, _⟩
        have hne : ts[k]'hkl ≠ [] := fun e => by
          have h := G.out
          rw [e] at h
          cases h
        obtain ⟨M1, o1, row, rfl, _, r1, r2⟩ := p1.row hne
        have HB1 : w1.heap[w.heap.size]? = _ := q1.block w.heap.size hsz
        have HR1 : RowsAt (fun b => b < w1.heap.size ∧ b ≠ w.heap.size) w1 w.heap.size len (ts.take k) := HR.out.kept (kept_of_below q1 fun _ h => h.1) HB1 (fun b h => ⟨Nat.lt_of_lt_of_le h.1 q1.size, h.2⟩)
        have hlk : (ts.take k).length = k := by rw [List.length_take]; omega
        have ht := HR1.there k hlt
        have HN := HR1.more (t := ts[k]'hkl) (fun h => h.2 rfl) (by rw [hlk]; exact hlt) (r2.mono fun b h => ⟨h.2, by have := h.1; omega⟩)
        rw [hlk, ← List.take_succ_eq_append_getElem hkl] at HN
        have HN' : Hid (RowsAt (fun b => b < (w1.setCells w.heap.size (k * 10) row).heap.size ∧ b ≠ w.heap.size) (w1.setCells w.heap.size (k * 10) row) w.heap.size len (ts.take (k + 1))) := by
          rw [size_setCells]; exact HN
        have HBel : Hid (Below w.heap.size w (w1.setCells w.heap.size (k * 10) row)) := below_setCells _ (Nat.le_refl _) _ _ _ (hb.trans (q1.mono hb.size))
        have HSZ : Hid (w.heap.size < (w1.setCells w.heap.size (k * 10) row).heap.size) := by
          show w.heap.size < _
          rw [size_setCells]; have := q1.size; omega
        have HT : Hid (w1.there w.heap.size (k * 10) 10) := ht
        have HT2 : Hid (w1.rangeAt M1 o1 row) := r1
        have HT3 : Hid (row.length = 10) := r2.length
        have HT4 : Hid (∀ v ∈ row, v.oneCell' = true) := r2.one
        clear HN HR1 HB1 p1 ht r1 r2 hlk G hne
        go_wp2_with (first
          | (refine load44 w1 M1 o1 row HT2.out HT3.out ?_ ?_; rfl)
          | (refine store44 w1 w.heap.size (k * 10) row HT.out HT3.out HT4.out ?_ ?_ ?_; rfl; rfl))
        exact ⟨⟨k + 1, by go_num, by omega, HBel.out, HSZ.out, HN'⟩, by simp [intOf]; omega⟩
      · have HD := HR.out
        rw [List.take_of_length_le (by rw [HL.out]; omega)] at HD
        have HD' : Hid _ := HD
        clear HD
        go_wp2
        go_ret
        exact ⟨_, rfl, hb, .inr ⟨w.heap.size, len, congrArg (fun n => Value.slice (some ⟨w.heap.size, 0, none⟩) n len) HL.out.symm, Nat.le_refl _, hsz, HD'.out⟩⟩
end Go.Proofs.Qxb6618615aDoor
