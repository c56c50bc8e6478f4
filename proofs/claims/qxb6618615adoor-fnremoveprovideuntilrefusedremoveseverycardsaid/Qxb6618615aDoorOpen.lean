/-
  The arguments opened: a slice of tokens, a token by value; how great their parts are.
-/
import Derived.Test.Qxb6618615aDoorSizes
import Derived.Deep.Slices
import Derived.Deep.MidRow
import Derived.SizedLaws
import Derived.ProofKit
import Derived.OpenShut
namespace Go.Proofs.Qxb6618615aDoor
open Go.RowKit Go.Lib
set_option linter.unusedVariables false
set_option linter.unusedSimpArgs false

theorem Tryd.cells5 : Tryd.prog.cellsOf 5 = 1 := by kernel_rfl
theorem Tryd.cells9 : Tryd.prog.cellsOf 9 = 1 := by kernel_rfl
theorem Tryd.cells2 : Tryd.prog.cellsOf 2 = 1 := by kernel_rfl
theorem Tryd.cells3 : Tryd.prog.cellsOf 3 = 1 := by kernel_rfl
theorem Tryd.cells23 : Tryd.prog.cellsOf 23 = 1 := by kernel_rfl
theorem Tryd.cells24 : Tryd.prog.cellsOf 24 = 1 := by kernel_rfl
theorem Tryd.cells25 : Tryd.prog.cellsOf 25 = 1 := by kernel_rfl
theorem Tryd.cells27 : Tryd.prog.cellsOf 27 = 10 := by kernel_rfl
theorem Tryd.bytes5 : Tryd.prog.bytesOf 5 = 1 := by kernel_rfl
theorem Tryd.bytes9 : Tryd.prog.bytesOf 9 = 16 := by kernel_rfl

def light (ws : List Nat) : Prop := ∀ n ∈ ws, n ≤ reachBytes
theorem spot_none {w : World} {a : Addr} {v : Value} (h : w.cell? a = some v) : a = ⟨a.block, a.off, none⟩ := by
  obtain ⟨b, o, s⟩ := a
  cases s with
  | none => rfl
  | some n => simp [World.cell?] at h; split at h <;> cases h
theorem cell_below {w : World} {a : Addr} {v : Value} (h : w.cell? a = some v) : a.block < w.heap.size := World.block_lt_of_cell? w a h

theorem add0 (a : Addr) : a.add 0 = a := by simp [Addr.add]

section
variable {H : Type} {enc : TypeId × Value → H} {w : World}

theorem mem_weightsAll {P : Program} {e : TypeId} : ∀ {ds : List (DataW H)} {d : DataW H}, d ∈ ds → ∀ n ∈ d.weights P e, n ∈ DataW.weightsAll P e ds
  | d0 :: ds, d, hd, n, hn => by
    simp only [DataW.weightsAll, List.mem_append]
    rcases List.mem_cons.1 hd with rfl | h
    · exact .inl hn
    · exact .inr (mem_weightsAll h n hn)
  | [], _, hd, _, _ => by cases hd

theorem open_bytes {fuel : Nat} {cs : List Value} {x : DataW H × List MemPlace} (h : DataW.trod enc Tryd.prog w 0 (fun _ => true) true fuel 24 cs = some x) (hl : light (x.1.weights Tryd.prog 24)) :
    ∃ (l : List UInt8) (v : Value), cs = [v] ∧ SliceAt (fun b => b < w.heap.size) w v (bv l) ∧ l.length ≤ 140737488355328 := by
  rcases Go.Deep.open_slice1 Tryd.underlying24 Tryd.cells5 h with ⟨rfl, rfl⟩ | ⟨a, len, cap, m, n, V, D, Pl, rfl, hb, hle, hm, rfl, rfl, hx⟩
  · exact ⟨[], _, rfl, .inl ⟨rfl, none, 0, rfl, fun _ => rfl⟩, by simp⟩
  · have hw : len ≤ 140737488355328 := by
      have := hl _ (by simp only [DataW.weights, Tryd.underlying24]; exact List.mem_cons_self)
      simp only [List.length_map, List.length_range, Tryd.bytes5, if_true, reachBytes] at this
      omega
    have hv : ∀ i, i < len → w.cell? (a.add i) = some (.int .u8 (((UInt8.ofNat (intOf (V i)).toNat).toNat : Nat) : Int)) := by
      intro i hi
      obtain ⟨h1, h2⟩ := hx i (by omega)
      obtain ⟨z, e1, _, e3⟩ := DataW.trod_int Tryd.underlying5 h2
      have e4 : V i = .int .u8 z := (List.cons.inj e1).1
      rw [h1, e4]
      simp [Lit.wf, IntKind.min, IntKind.max, IntKind.signed, IntKind.bits] at e3
      simp only [intOf, UInt8.toNat_ofNat']
      congr 2
      omega
    refine ⟨(List.range len).map fun i => UInt8.ofNat (intOf (V i)).toNat, _, rfl, ?_, by simpa using hw⟩
    by_cases h0 : len = 0
    · subst h0
      exact .inl ⟨rfl, some a, m, rfl, fun h => by cases h⟩
    · have ha := hv 0 (by omega)
      have ha' := ha; rw [add0] at ha'
      obtain ⟨M, o, s⟩ := a
      have hs := spot_none ha'
      simp only [Addr.mk.injEq, true_and] at hs
      subst hs
      refine .inr ⟨M, o, m, by simp, cell_below ha', fun k hk => ?_⟩
      have hk' : k < len := by simpa using hk
      have := hv k hk'
      rw [Addr.add_lit] at this
      rw [this, bv_get]
      simp

theorem open_strs {fuel : Nat} {cs : List Value} {x : DataW H × List MemPlace} (h : DataW.trod enc Tryd.prog w 0 (fun _ => true) true fuel 23 cs = some x) (hl : light (x.1.weights Tryd.prog 23)) :
    ∃ (l : List ByteArray) (v : Value), cs = [v] ∧ SliceAt (fun b => b < w.heap.size) w v (sv l) ∧ l.length ≤ 140737488355328 ∧ ∀ c ∈ l, c.size ≤ 140737488355328 := by
  rcases Go.Deep.open_slice1 Tryd.underlying23 Tryd.cells9 h with ⟨rfl, rfl⟩ | ⟨a, len, cap, m, n, V, D, Pl, rfl, hb, hle, hm, rfl, rfl, hx⟩
  · exact ⟨[], _, rfl, .inl ⟨rfl, none, 0, rfl, fun _ => rfl⟩, by simp, by simp⟩
  · have hw : len ≤ 140737488355328 := by
      have := hl _ (by simp only [DataW.weights, Tryd.underlying23]; exact List.mem_cons_self)
      simp only [List.length_map, List.length_range, Tryd.bytes9, if_true, reachBytes] at this
      omega
    have hv : ∀ i, i < len → ∃ s : ByteArray, w.cell? (a.add i) = some (.string s) ∧ s.size ≤ 140737488355328 := by
      intro i hi
      obtain ⟨h1, h2⟩ := hx i (by omega)
      obtain ⟨s, e1, e2, _⟩ := DataW.trod_string Tryd.underlying9 h2
      have e4 : V i = .string s := (List.cons.inj e1).1
      refine ⟨s, by rw [h1, e4], ?_⟩
      have e5 : D i = .lit (.string s.data.toList) := (Prod.mk.inj e2).1
      have := hl s.data.toList.length (by
        simp only [DataW.weights, Tryd.underlying23, List.mem_cons, List.mem_append]
        refine .inr (.inl (mem_weightsAll (List.mem_map.2 ⟨i, List.mem_range.2 hi, rfl⟩) _ ?_))
        rw [e5]
        simp [DataW.weights])
      have e6 : s.data.toList.length = s.size := rfl
      simp only [reachBytes] at this
      omega
    obtain ⟨S, hS⟩ := Go.Deep.choose_lt (α := ByteArray) hv
    refine ⟨(List.range len).map S, _, rfl, ?_, by simpa using hw, fun c hc => ?_⟩
    · by_cases h0 : len = 0
      · subst h0
        exact .inl ⟨rfl, some a, m, rfl, fun h => by cases h⟩
      · have ha := (hS 0 (by omega)).1
        have ha' := ha; rw [add0] at ha'
        obtain ⟨M, o, s⟩ := a
        have hs := spot_none ha'
        simp only [Addr.mk.injEq, true_and] at hs
        subst hs
        refine .inr ⟨M, o, m, by simp, cell_below ha', fun k hk => ?_⟩
        have hk' : k < len := by simpa using hk
        have := (hS k hk').1
        rw [Addr.add_lit] at this
        rw [this, sv_get]
        simp
    · obtain ⟨i, hi, rfl⟩ := List.mem_map.1 hc
      exact (hS i (List.mem_range.1 hi)).2

/-- A row that lies there is a token behind a pointer. -/
theorem RowAt.tok {ok : Nat → Prop} {t : List Lvl} {row : List Value} {M o : Nat} (h : RowAt ok w t row) (hM : ok M) (hr : w.rangeAt M o row) : TokAt ok w t (.pointer (some ⟨M, o, none⟩)) := by
  obtain ⟨L, r, vc, vn, vp, vs, rfl, rfl, h1, h2, h3, h4⟩ := h
  exact ⟨M, o, vc, vn, vp, vs, rfl, hM, hr 0 _ rfl, hr 1 _ rfl, hr 2 _ rfl, hr 3 _ rfl, hr 4 _ rfl, hr 5 _ rfl, hr 6 _ rfl, hr 7 _ rfl, hr 8 _ rfl, hr 9 _ rfl, h1, h2, h3, h4⟩
theorem range_cells {a : Addr} {n : Nat} {cs : List Value} (hn : 0 < n) (h : w.cells? 0 a n = some cs) : a = ⟨a.block, a.off, none⟩ ∧ a.block < w.heap.size ∧ w.rangeAt a.block a.off cs := by
  obtain ⟨_, hl, hc⟩ := World.cells?_some h
  have h0 := hc 0 hn
  rw [List.getElem?_eq_getElem (by omega)] at h0
  have h0' := h0; rw [add0] at h0'
  have hs := spot_none h0'
  refine ⟨hs, cell_below h0', fun j v hj => ?_⟩
  have hjl : j < cs.length := (List.getElem?_eq_some_iff.1 hj).1
  have := hc j (by omega)
  rw [hs, Addr.add_lit] at this
  rw [this, hj]

theorem string_fits {fuel : Nat} {c : Value} {y : DataW H × List MemPlace} (h : DataW.trod enc Tryd.prog w 0 (fun _ => true) true fuel 9 [c] = some y) (hl : light (y.1.weights Tryd.prog 9)) : ∃ s : ByteArray, c = .string s ∧ s.size ≤ 140737488355328 := by
  obtain ⟨s, e1, rfl, _⟩ := DataW.trod_string Tryd.underlying9 h
  refine ⟨s, (List.cons.inj e1).1, ?_⟩
  have := hl s.data.toList.length (by simp [DataW.weights])
  have e6 : s.data.toList.length = s.size := rfl
  simp only [reachBytes] at this
  omega
theorem int_fits {t : TypeId} {fuel : Nat} {c : Value} {y : DataW H × List MemPlace} (ht : Tryd.prog.underlying t = some (.int .i64)) (h : DataW.trod enc Tryd.prog w 0 (fun _ => true) true fuel t [c] = some y) : ∃ z : Int, c = .int .i64 z ∧ (-9223372036854775808 ≤ z ∧ z ≤ 9223372036854775807) := by
  obtain ⟨z, e1, _, e3⟩ := DataW.trod_int ht h
  refine ⟨z, (List.cons.inj e1).1, ?_⟩
  simp [Lit.wf, IntKind.min, IntKind.max, IntKind.signed, IntKind.bits] at e3
  omega

theorem ten {cs : List Value} (h : cs.length = 10) : ∃ c0 c1 c2 c3 c4 c5 c6 c7 c8 c9, cs = [c0, c1, c2, c3, c4, c5, c6, c7, c8, c9] := by
  match cs, h with
  | [c0, c1, c2, c3, c4, c5, c6, c7, c8, c9], _ => exact ⟨_, _, _, _, _, _, _, _, _, _, rfl⟩

set_option maxRecDepth 100000 in
theorem open_tok : ∀ (fuel : Nat) (cs : List Value) (x : DataW H × List MemPlace), DataW.trod enc Tryd.prog w 0 (fun _ => true) true fuel 27 cs = some x → light (x.1.weights Tryd.prog 27) →
    ∃ t, RowAt (fun b => b < w.heap.size) w t cs ∧ ∀ L ∈ t, L.fits 140737488355328 := by
  intro fuel
  induction fuel using Nat.strongRecOn with
  | ind fuel ih =>
    intro cs x h hl
    obtain ⟨xs, n, rfl, rfl, hlen, hxl, hel⟩ := DataW.trod_struct Tryd.underlying27 h
    rw [Tryd.cells27] at hlen
    obtain ⟨c0, c1, c2, c3, c4, c5, c6, c7, c8, c9, rfl⟩ := ten hlen
    have hx10 : xs.length = 10 := hxl
    have one : ∀ i (hi : i < 10), xs[i]? = some (xs[i]'(by omega)) := fun i hi => List.getElem?_eq_getElem (by omega)
    have lig : ∀ (i : Nat) (hi : i < 10) (t : TypeId), ([9, 9, 9, 9, 23, 24, 2, 3, 25, 24] : List TypeId)[i]? = some t → light ((xs[i]'(by omega)).1.weights Tryd.prog t) := by
      intro i hi t ht n hn
      refine hl n ?_
      simp only [DataW.weights, Tryd.underlying27]
      refine DataW.weights_mem_each (j := i) (t := t) (d := (xs[i]'(by omega)).1) ht ?_ n hn
      rw [List.getElem?_map, one i hi]
      rfl
    obtain ⟨s0, rfl, z0⟩ := string_fits ((hel 0 _ rfl).trans (one 0 (by omega))) (lig 0 (by omega) 9 rfl)
    obtain ⟨s1, rfl, z1⟩ := string_fits ((hel 1 _ rfl).trans (one 1 (by omega))) (lig 1 (by omega) 9 rfl)
    obtain ⟨s2, rfl, z2⟩ := string_fits ((hel 2 _ rfl).trans (one 2 (by omega))) (lig 2 (by omega) 9 rfl)
    obtain ⟨s3, rfl, z3⟩ := string_fits ((hel 3 _ rfl).trans (one 3 (by omega))) (lig 3 (by omega) 9 rfl)
    obtain ⟨l4, v4, e4, S4, z4, y4⟩ := open_strs ((hel 4 _ rfl).trans (one 4 (by omega))) (lig 4 (by omega) 23 rfl)
    obtain ⟨l5, v5, e5, S5, z5⟩ := open_bytes ((hel 5 _ rfl).trans (one 5 (by omega))) (lig 5 (by omega) 24 rfl)
    obtain ⟨i6, rfl, z6⟩ := int_fits Tryd.underlying2 ((hel 6 _ rfl).trans (one 6 (by omega)))
    obtain ⟨i7, rfl, z7⟩ := int_fits Tryd.underlying3 ((hel 7 _ rfl).trans (one 7 (by omega)))
    obtain ⟨l9, v9, e9, S9, z9⟩ := open_bytes ((hel 9 _ rfl).trans (one 9 (by omega))) (lig 9 (by omega) 24 rfl)
    have e4' : c4 = v4 := (List.cons.inj e4).1
    have e5' : c5 = v5 := (List.cons.inj e5).1
    have e9' : c9 = v9 := (List.cons.inj e9).1
    subst e4' e5' e9'
    have h8 := (hel 8 _ rfl).trans (one 8 (by omega))
    have l8 := lig 8 (by omega) 25 rfl
    have chain : ∃ r, TokAt (fun b => b < w.heap.size) w r c8 ∧ ∀ L ∈ r, L.fits 140737488355328 := by
      rcases DataW.trod_pointer Tryd.underlying25 h8 with ⟨e, _⟩ | ⟨a, cs', y, n', rfl, e, ex, hc, hy⟩
      · exact ⟨[], (List.cons.inj e).1, by simp⟩
      · rw [ex] at l8
        rw [Tryd.cells27] at hc
        obtain ⟨r, g1, g2⟩ := ih n' (by omega) cs' y hy (fun n hn => l8 n (by simp only [DataW.weights, Tryd.underlying25]; exact hn))
        obtain ⟨hs, hb, hr⟩ := range_cells (by omega) hc
        refine ⟨r, ?_, g2⟩
        have e' : c8 = .pointer (some a) := (List.cons.inj e).1
        rw [e', hs]
        exact g1.tok hb hr
    obtain ⟨r, R1, R2⟩ := chain
    refine ⟨⟨s0, s1, s2, s3, l4, l5, i6, i7, l9⟩ :: r, ⟨_, r, c4, c5, c8, c9, rfl, rfl, S4, S5, S9, R1⟩, fun L hL => ?_⟩
    rcases List.mem_cons.1 hL with rfl | hL
    · exact ⟨z0, z1, z2, z3, z4, y4, z5, z9, z6, z7⟩
    · exact R2 L hL

theorem open_toks {fuel : Nat} {cs : List Value} {x : DataW H × List MemPlace} (h : DataW.trod enc Tryd.prog w 0 (fun _ => true) true fuel 22 cs = some x) (hl : light (x.1.weights Tryd.prog 22)) :
    ∃ (ts : List (List Lvl)) (v : Value), cs = [v] ∧ ToksAt (fun b => b < w.heap.size) w v ts ∧ ∀ t ∈ ts, ∀ L ∈ t, L.fits 140737488355328 := by
  rcases Go.Deep.open_slice Tryd.underlying22 h with ⟨rfl, rfl⟩ | ⟨a, len, cap, m, n, D, Pl, rfl, hb, hle, hm, rfl, rfl, hx⟩
  · exact ⟨[], _, rfl, ⟨none, 0, rfl, fun _ => ⟨rfl, rfl⟩, fun h => absurd h (by simp)⟩, by simp⟩
  · have hv : ∀ i, i < len → ∃ t : List Lvl, (∀ L ∈ t, L.fits 140737488355328) ∧ ∃ row, w.cells? 0 (a.add (i * 10)) 10 = some row ∧ RowAt (fun b => b < w.heap.size) w t row := by
      intro i hi
      obtain ⟨cs', h1, h2⟩ := hx i (by omega)
      rw [Tryd.cells27] at h1
      obtain ⟨t, g1, g2⟩ := open_tok n cs' _ h2 (fun k hk => hl k (by
        simp only [DataW.weights, Tryd.underlying22, List.mem_cons, List.mem_append]
        exact .inr (.inl (mem_weightsAll (List.mem_map.2 ⟨i, List.mem_range.2 hi, rfl⟩) _ hk))))
      exact ⟨t, g2, cs', h1, g1⟩
    obtain ⟨S, hS⟩ := Go.Deep.choose_lt (α := List Lvl) hv
    refine ⟨(List.range len).map S, _, rfl, ⟨some a, m, by simp, fun h => (by cases h), fun h0 => ?_⟩, fun t ht => ?_⟩
    · have h0' : 0 < len := by simpa using h0
      obtain ⟨_, row, g1, g2⟩ := hS 0 h0'
      have g1' : w.cells? 0 a 10 = some row := by simpa [Addr.add] using g1
      obtain ⟨hs, hb, _⟩ := range_cells (by omega) g1'
      refine ⟨a.block, a.off, by rw [← hs], hb, fun k hk => ?_⟩
      have hk' : k < len := by simpa using hk
      obtain ⟨_, row, q1, q2⟩ := hS k hk'
      rw [hs, Addr.add_lit] at q1
      obtain ⟨_, _, hr⟩ := range_cells (by omega) q1
      simpa using q2.tok (M := a.block) (o := a.off + k * 10) hb hr
    · obtain ⟨i, hi, rfl⟩ := List.mem_map.1 ht
      exact (hS i (List.mem_range.1 hi)).1
end
end Go.Proofs.Qxb6618615aDoor
