/-
  remove[Token], RemoveProvide.
-/
import Derived.Test.Qxb6618615aDoorDel
namespace Go.Proofs.Qxb6618615aDoor
open Go.RowKit Go.Lib
set_option linter.unusedVariables false
set_option linter.unusedSimpArgs false

/-- The anchors in block A: their list. -/
def Anch (lo hi A : Nat) (w : World) (ts : List (List Lvl)) : Prop :=
  hi ≤ A ∧ ∃ v, w.cell? ⟨A, 2, none⟩ = some v ∧ w.frozen? ⟨A, 2, none⟩ = false ∧ ProvAt lo hi w v ts
theorem ProvAt.kept {lo hi : Nat} {w w' : World} {v : Value} {ts : List (List Lvl)} (h : ProvAt lo hi w v ts) (hk : ∀ b, b < hi → w'.heap[b]? = w.heap[b]?) : ProvAt lo hi w' v ts := by
  rcases h with h | ⟨B, cap, h1, h2, h3, h4⟩
  · exact .inl h
  · exact .inr ⟨B, cap, h1, h2, h3, h4.kept (fun b hb => hk b hb.1) (hk B h3) (fun _ h => h)⟩
theorem Anch.kept {lo hi A : Nat} {w w' : World} {ts : List (List Lvl)} (h : Anch lo hi A w ts) (hk : ∀ b, b < hi → w'.heap[b]? = w.heap[b]?) (hA : w'.heap[A]? = w.heap[A]?) : Anch lo hi A w' ts := by
  obtain ⟨h0, v, h1, h2, h3⟩ := h
  exact ⟨h0, v, (World.cell?_of_block (a := ⟨A, 2, none⟩) hA).trans h1, (World.frozen?_of_block (a := ⟨A, 2, none⟩) hA).trans h2, h3.kept hk⟩

/-- What a removal leaves. -/
def Removed (lo hi A : Nat) (x : List Lvl) (ts : List (List Lvl)) (ev : Value) (e : Ending) (w' : World) : Prop :=
  (e = .returned ev ∧ (∀ j (h : j < ts.length), alike x (ts[j]'h) = false) ∧ Anch lo hi A w' ts) ∨
  (e = .returned .nilIface ∧ ∃ i, ∃ h : i < ts.length, alike x (ts[i]'h) = true ∧ Anch lo hi A w' (ts.eraseIdx i))
def Framed (lo hi A : Nat) (w w' : World) : Prop := Below lo w w' ∧ ∀ k, k < w.heap.size → hi ≤ k → k ≠ A → w'.heap[k]? = w.heap[k]?

set_option maxHeartbeats 2000000 in
set_option maxRecDepth 100000 in
theorem remove15 (lo hi A X : Nat) (x : List Lvl) (ts : List (List Lvl)) (pv : Value) (u : TypeId) (e0 : Addr) (w : World) (hlo : lo ≤ hi) (h0 : 0 < lo) (hA : A < w.heap.size) (hx : Good x) (hts : ∀ t ∈ ts, Good t) (hX : w.cell? ⟨X, 0, none⟩ = some pv) (h1 : TokAt (fun b => b < w.heap.size) w x pv)
    (ha : Anch lo hi A w ts) (hl : ts.length ≤ 1024) (hE : w.cell? ⟨0, 0, none⟩ = some (.iface u (.pointer (some e0)))) :
    Calls Tryd.prog 15 #[.pointer (some ⟨A, 2, none⟩), .func (.func 16) #[] #[.pointer (some ⟨X, 0, none⟩)]] w fun e w' => Removed lo hi A x ts (.iface u (.pointer (some e0))) e w' ∧ Framed lo hi A w w' := by
  obtain ⟨hhA, v, hv, hfz, hp⟩ := ha
  have H18 : Hid (Calls Tryd.prog 18 #[v, .func (.func 16) #[] #[.pointer (some ⟨X, 0, none⟩)]] w fun e w' => (∃ r : Int, e = .returned (.int .i64 r) ∧ Found x ts r) ∧ Below w.heap.size w w') := index18 lo hi x ts X pv v w (by omega) hx hts hX h1 hp hl
  have HA : Hid (Anch lo hi A w ts) := ⟨hhA, v, hv, hfz, hp⟩
  have HP : Hid (ProvAt lo hi w v ts) := hp
  have hshape : ∃ p n c, v = .slice p n c := by
    rcases hp with ⟨rfl, _⟩ | ⟨B, cap, rfl, _⟩
    · exact ⟨_, _, _, rfl⟩
    · exact ⟨_, _, _, rfl⟩
  obtain ⟨p, n, c, rfl⟩ := hshape
  clear hp hx hts h1 hX
  go_enter Tryd.func15, Tryd.ntmps15
  go_wp2_with fail
  refine H18.out.mono ?_
  rintro e w1 ⟨⟨r, rfl, hr⟩, hb⟩
  have hbs := hb.size
  have hA1 : Anch lo hi A w1 ts := HA.out.kept (fun b hb' => hb.block b (by omega)) (hb.block A hA)
  have hE1 := (hb.cell (p := ⟨0, 0, none⟩) (by show 0 < _; omega)).trans hE
  have hFr1 : Framed lo hi A w w1 := ⟨hb.mono (by omega), fun k hk _ _ => hb.block k hk⟩
  rcases hr with ⟨rfl, hn⟩ | ⟨i, hi', rfl, hyes, _⟩
  · have HN : Hid (Removed lo hi A x ts (.iface u (.pointer (some e0))) (.returned (.iface u (.pointer (some e0)))) w1 ∧ Framed lo hi A w w1) := ⟨.inl ⟨rfl, hn, hA1⟩, hFr1⟩
    clear hn hA1 hFr1
    go_wp2
    go_ret
    exact HN.out
  · have hv1 := (hb.cell (p := ⟨A, 2, none⟩) hA).trans hv
    have hfz1 := (hb.frozen (p := ⟨A, 2, none⟩) hA).trans hfz
    have hp1 := HP.out.kept (w' := w1) (fun b hb' => hb.block b (by omega))
    rcases hp1 with ⟨_, rfl⟩ | ⟨B, cap, hsl, hB1, hB2, hR⟩
    · exact absurd hi' (by simp)
    cases hsl
    have hdel := delete19 (fun b => b < hi ∧ b ≠ B) w1 B i c ts (fun h => h.2 rfl) hi' hR hl
    have HD : Hid (Calls Tryd.prog 19 #[.slice (some ⟨B, 0, none⟩) ts.length c, .int .i64 i, .int .i64 ((i : Int) + 1)] w1 fun e w' => e = .returned (.slice (some ⟨B, 0, none⟩) (ts.length - 1) c) ∧ RowsAt (fun b => b < hi ∧ b ≠ B) w' B c (ts.eraseIdx i) ∧ (∀ k, k ≠ B → w'.heap[k]? = w1.heap[k]?) ∧ w'.heap.size = w1.heap.size ∧ Below B w1 w') := hdel
    have HY : Hid (alike x (ts[i]'hi') = true) := hyes
    have HF1 : Hid (Framed lo hi A w w1) := hFr1
    clear hdel hR hyes hFr1 hA1 hE hE1
    have hi2 : (i : Int) < 1024 := by omega
    have hi3 : (0 : Int) ≤ i := by omega
    have hi4 : ¬ (i : Int) < 0 := by omega
    go_wp2_with fail
    refine HD.out.mono ?_
    rintro e w2 ⟨rfl, hR2, hk2, hs2, hb2⟩
    have hv2 := (World.cell?_of_block (a := ⟨A, 2, none⟩) (hk2 A (by omega))).trans hv1
    have hfz2 := (World.frozen?_of_block (a := ⟨A, 2, none⟩) (hk2 A (by omega))).trans hfz1
    have hlen : (ts.eraseIdx i).length = ts.length - 1 := by rw [List.length_eraseIdx, if_pos hi']
    have hoth : ∀ k, k ≠ A → (w2.setCell ⟨A, 2, none⟩ (.slice (some ⟨B, 0, none⟩) (ts.length - 1) c)).heap[k]? = w2.heap[k]? := fun k hk => Below.heap_setCell w2 ⟨A, 2, none⟩ _ k hk
    have HEND : Hid (Removed lo hi A x ts (.iface u (.pointer (some e0))) (.returned .nilIface) (w2.setCell ⟨A, 2, none⟩ (.slice (some ⟨B, 0, none⟩) (ts.length - 1) c)) ∧ Framed lo hi A w (w2.setCell ⟨A, 2, none⟩ (.slice (some ⟨B, 0, none⟩) (ts.length - 1) c))) := by
      refine ⟨.inr ⟨rfl, i, hi', HY.out, hhA, .slice (some ⟨B, 0, none⟩) (ts.length - 1) c, ?_, ?_, .inr ⟨B, c, by rw [hlen], hB1, hB2, ?_⟩⟩, ?_, ?_⟩
      · exact World.cell?_setCell_same _ _ _ hv2
      · rw [World.frozen?_setCell]; exact hfz2
      · exact hR2.kept (fun b hb' => hoth b (by omega)) (hoth B (by omega)) (fun _ h => h)
      · exact (HF1.out.1.trans (hb2.mono (by omega))).setCell (p := ⟨A, 2, none⟩) (by show lo ≤ A; omega) _
      · intro k hk1 hk3 hk4
        rw [hoth k hk4, hk2 k (by omega)]
        exact HF1.out.2 k hk1 hk3 hk4
    clear hR2 hk2 hb2 hoth hlen
    go_wp2
    go_ret
    exact HEND.out

set_option maxHeartbeats 2000000 in
set_option maxRecDepth 100000 in
theorem remove9 (lo hi A : Nat) (x : List Lvl) (ts : List (List Lvl)) (pv : Value) (u : TypeId) (e0 : Addr) (w : World) (hlo : lo ≤ hi) (h0 : 0 < lo) (hA : A < w.heap.size) (hx : Good x) (hts : ∀ t ∈ ts, Good t) (h1 : TokAt (fun b => b < w.heap.size) w x pv)
    (ha : Anch lo hi A w ts) (hl : ts.length ≤ 1024) (hE : w.cell? ⟨0, 0, none⟩ = some (.iface u (.pointer (some e0)))) :
    Calls Tryd.prog 9 #[.pointer (some ⟨A, 0, none⟩), pv] w fun e w' => Removed lo hi A x ts (.iface u (.pointer (some e0))) e w' ∧ Framed lo hi A w w' := by
  have hb : Below w.heap.size w (w.alloc (.cells #[pv] 35)) := (Below.refl _ w).alloc (Nat.le_refl _) _
  have hbs := hb.size
  have hhA := ha.1
  have h15 := remove15 lo hi A w.heap.size x ts pv u e0 (w.alloc (.cells #[pv] 35)) hlo h0 (by omega) hx hts (cell_of_row _ _ _ #[pv] 35 (0, 0) (heap_alloc_last w _)) (TokAt.mono (fun b h => Nat.lt_of_lt_of_le h hbs) (TokAt.kept (kept_of_below hb fun _ h => h) h1)) (ha.kept (fun b hb' => hb.block b (by omega)) (hb.block A hA)) hl ((hb.cell (p := ⟨0, 0, none⟩) (by show 0 < _; omega)).trans hE)
  have H15 : Hid (Calls Tryd.prog 15 #[.pointer (some ⟨A, 2, none⟩), .func (.func 16) #[] #[.pointer (some ⟨w.heap.size, 0, none⟩)]] (w.alloc (.cells #[pv] 35)) fun e w' => Removed lo hi A x ts (.iface u (.pointer (some e0))) e w' ∧ Framed lo hi A (w.alloc (.cells #[pv] 35)) w') := h15
  have HFR : Hid (∀ w', Framed lo hi A (w.alloc (.cells #[pv] 35)) w' → Framed lo hi A w w') := fun w' h => ⟨(hb.mono (by omega)).trans h.1, fun k hk1 hk2 hk3 => (h.2 k (by omega) hk2 hk3).trans (hb.block k hk1)⟩
  obtain ⟨q, rfl⟩ := h1.pointer
  clear h15 h1 ha hts hx hE
  go_enter Tryd.func9, Tryd.ntmps9
  go_wp2_with fail
  refine H15.out.mono ?_
  rintro e w1 ⟨hrem, hfr⟩
  have HR : Hid (Removed lo hi A x ts (.iface u (.pointer (some e0))) e w1) := hrem
  have HF : Hid (Framed lo hi A w w1) := HFR.out w1 hfr
  rcases hrem with ⟨rfl, _⟩ | ⟨rfl, _⟩
  · clear hfr
    go_wp2
    go_ret
    exact ⟨HR.out, HF.out⟩
  · clear hfr
    go_wp2
    go_ret
    exact ⟨HR.out, HF.out⟩
end Go.Proofs.Qxb6618615aDoor
