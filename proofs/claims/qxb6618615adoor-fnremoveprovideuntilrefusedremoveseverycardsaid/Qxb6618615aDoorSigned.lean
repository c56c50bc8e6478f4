/-
  appendSigned.
-/
import Derived.Test.Qxb6618615aDoorPar
namespace Go.Proofs.Qxb6618615aDoor
open Go.RowKit Go.Lib
set_option linter.unusedVariables false
set_option linter.unusedSimpArgs false

def signed (L : Lvl) (inner : List UInt8) : List UInt8 := flds [domain, L.act.data.toList, L.iss.data.toList, L.sub.data.toList, L.aud.data.toList] ++ fld (flds (capB L.caps)) ++ flds [L.nonce, be8 (u64 L.exp), be8 (u64 L.depth)] ++ fld inner
def sealed : List Lvl → List UInt8
  | [] => []
  | L :: r => signed L (sealed r) ++ L.sig

/-- appendSealed's contract at a chain. -/
def Sealed21 (B : Nat) (r : List Lvl) : Prop := ∀ (v b : Value) (bs : List UInt8) (w : World), TokAt (fun x => x < B) w r v → Own B w b bs → B ≤ w.heap.size → bs.length + (sealed r).length ≤ 1000000000 → Calls Tryd.prog 21 #[v, b] w (App B w b bs (sealed r))
theorem tok_pointer {ok : Nat → Prop} {w : World} {t : List Lvl} {v : Value} (h : TokAt ok w t v) : ∃ q, v = .pointer q := by
  cases t with
  | nil => exact ⟨_, h⟩
  | cons L r => obtain ⟨M, o, vc, vn, vp, vs, hv, _⟩ := h; exact ⟨_, hv⟩
theorem int26s (x : Int) (w : World) : Calls Tryd.prog 26 #[.int .i64 x] w fun e w' => ∃ p c, e = .returned (.slice p 8 c) ∧ SliceAt (fun y => w.heap.size ≤ y ∧ y < w'.heap.size) w' (.slice p 8 c) (bv (be8 (u64 x))) ∧ w.grownBy w' none := by
  refine (int26 w.heap.size x w (Nat.le_refl _)).mono ?_
  rintro e w' ⟨v', rfl, h1, h2⟩
  obtain ⟨p, c, rfl⟩ := h1.slice
  exact ⟨p, c, rfl, h1.sliceAt, h2.1⟩
theorem fields3 {B : Nat} {w w5 w6 : World} {b vn : Value} {p5 p6 : Option Addr} {k5 k6 : Nat} {bs n1 n2 n3 : List UInt8} (hown : Own B w b bs) (hB : B ≤ w.heap.size) (t2 : SliceAt (fun x => x < B) w vn (bv n1)) (h2 : n2.length = 8) (h3 : n3.length = 8)
    (g5 : w.grownBy w5 none) (f5 : SliceAt (fun y => w.heap.size ≤ y ∧ y < w5.heap.size) w5 (.slice p5 8 k5) (bv n2)) (g6 : w5.grownBy w6 none) (f6 : SliceAt (fun y => w5.heap.size ≤ y ∧ y < w6.heap.size) w6 (.slice p6 8 k6) (bv n3)) (hlim : bs.length + (flds [n1, n2, n3]).length ≤ 1099511627776) :
    Calls Tryd.prog 23 #[b, .slice (some ⟨w6.heap.size, 0, none⟩) 3 3] (w6.alloc (.cells #[vn, .slice p5 8 k5, .slice p6 8 k6] 24)) (App B (w6.alloc (.cells #[vn, .slice p5 8 k5, .slice p6 8 k6] 24)) b bs (flds [n1, n2, n3])) := by
  have h5 := g5.size
  have h6 := g6.size
  have hlt := own_lt hown
  have hg : w.grownBy w6 none := grown_trans g5 g6
  have hF := fields_built (w1 := w6) (b := b) [vn, .slice p5 8 k5, .slice p6 8 k6] [n1, n2, n3] 3 rfl (fun j hj => by have := hlt j hj; omega) (fun j hj hj2 => by
    match j, hj, hj2 with
    | 0, _, _ => exact (t2.kept fun x hx => hg.block x (by omega) (by simp)).mono fun x hx => ⟨by omega, fun e => by have := hlt x e; omega⟩
    | 1, _, _ => exact (f5.kept fun x hx => g6.block x hx.2 (by simp)).mono fun x hx => ⟨by omega, fun e => by have := hlt x e; omega⟩
    | 2, _, _ => exact f6.mono fun x hx => ⟨hx.2, fun e => by have := hlt x e; omega⟩)
  exact fields23 B [n1, n2, n3] _ b bs _ ((hown.step hg).alloc _) (by simp; omega) hF hlim (by simp)

set_option maxHeartbeats 8000000 in
set_option maxRecDepth 100000 in
theorem signed22 (B : Nat) (L : Lvl) (r : List Lvl) (ih : Sealed21 B r) (v b : Value) (bs : List UInt8) (w : World) (ht : TokAt (fun x => x < B) w (L :: r) v) (hown : Own B w b bs) (hBw : B ≤ w.heap.size) (hlim : bs.length + (signed L (sealed r)).length ≤ 1000000000) (hcl : L.caps.length ≤ 1048576) :
    Calls Tryd.prog 22 #[v, b] w (App B w b bs (signed L (sealed r))) := by
  have IH : Hid (Sealed21 B r) := ih
  clear ih
  have hlim2 := hlim
  simp only [signed, List.length_append] at hlim2
  obtain ⟨M, o, vc, vn, vp, vs, rfl, hM, c0, c1, c2, c3, c4, c5, c6, c7, c8, c9, t1, t2, t3, R⟩ := ht
  have HO : Hid (Own B w b bs) := hown
  have hMw : M < w.heap.size := Nat.lt_of_lt_of_le hM hBw
  have hne : ¬ w.heap.size = M := by omega
  have hb : Below w.heap.size w (w.alloc (.cells #[.pointer (some ⟨M, o, none⟩)] 35)) := (Below.refl _ w).alloc (Nat.le_refl _) _
  have d0 := (hb.cell (p := ⟨M, o, none⟩) hMw).trans c0
  have d1 := (hb.cell (p := ⟨M, o + 1, none⟩) hMw).trans c1
  have d2 := (hb.cell (p := ⟨M, o + 2, none⟩) hMw).trans c2
  have d3 := (hb.cell (p := ⟨M, o + 3, none⟩) hMw).trans c3
  have dX : (w.alloc (.cells #[.pointer (some ⟨M, o, none⟩)] 35)).cell? ⟨w.heap.size, 0, none⟩ = some (.pointer (some ⟨M, o, none⟩)) := cell_of_row _ _ _ _ 35 (0, 0) (heap_alloc_last w _)
  have hX1 : ¬ b.ownBlock = some w.heap.size := fun e => by have := own_lt hown _ e; omega
  have hX2 : ¬ b.ownBlock = some M := fun e => by have := own_lt hown _ e; omega
  have HSS : Hid (∀ W v', Step (w.alloc (.cells #[.pointer (some ⟨M, o, none⟩)] 35)) b W v' → W.cell? ⟨w.heap.size, 0, none⟩ = some (.pointer (some ⟨M, o, none⟩)) ∧ ∀ j, W.cell? ⟨M, j, none⟩ = w.cell? ⟨M, j, none⟩) := fun W v' st =>
    ⟨(World.cell?_of_block (a := ⟨w.heap.size, 0, none⟩) (st.1.block w.heap.size (by simp) fun e => hX1 e.symm)).trans dX, fun j => (World.cell?_of_block (a := ⟨M, j, none⟩) (st.1.block M (by simp; omega) fun e => hX2 e.symm)).trans (hb.cell (p := ⟨M, j, none⟩) hMw)⟩
  have HO1 : Hid (Own B (w.alloc (.cells #[.pointer (some ⟨M, o, none⟩)] 35)) b bs) := hown.alloc _
  clear hown hX1 hX2
  go_enter Tryd.func22, Tryd.ntmps22
  go_wp2
  refine wp_region_noPanic ?_
  refine wp_region_held_drew (S := fun W' => W'.cell? ⟨w.heap.size, 0, none⟩ = some (.pointer (some ⟨M, o, none⟩)) ∧ W'.cell? ⟨M, o, none⟩ = some (.string L.act) ∧ W'.cell? ⟨M, o + 1, none⟩ = some (.string L.iss) ∧ W'.cell? ⟨M, o + 2, none⟩ = some (.string L.sub) ∧ W'.cell? ⟨M, o + 3, none⟩ = some (.string L.aud)) (by kernel_rfl) ⟨dX, d0, d1, d2, d3⟩ (fun hHeld => ?_)
  refine wpAnyH_take (i := 0) (oi := { dst := some 5, op := .move (.tmp 1), type := _, pos := _, after := _, guard := none }) (v := ?v0) rfl (by kernel_rfl) (by kernel_rfl) (by kernel_rfl) (fun _ _ _ h => h) (Or.inl ⟨by rfl, ?hy0⟩) hHeld ?rest0
  case hy0 => (intro w hSw; (try dsimp only at hSw); go_simp; try with_reducible rfl)
  simp only [Act.put, List.setIfInBounds_toArray, List.set_cons_zero, List.set_cons_succ]
  refine wpAnyH_take (i := 3) (oi := { dst := some 8, op := .load 35 (.tmp 2), type := _, pos := _, after := _, guard := none }) (v := ?v3) rfl (by kernel_rfl) (by kernel_rfl) (by kernel_rfl) (fun _ _ _ h => h) (Or.inl ⟨by rfl, ?hy3⟩) hHeld ?rest3
  case hy3 => (intro w hSw; (try dsimp only at hSw); go_simp; try with_reducible rfl)
  simp only [Act.put, List.setIfInBounds_toArray, List.set_cons_zero, List.set_cons_succ]
  refine wpAnyH_take (i := 4) (oi := { dst := some 9, op := .nilCheck (.tmp 8), type := _, pos := _, after := _, guard := none }) (v := ?v4) rfl (by kernel_rfl) (by kernel_rfl) (by kernel_rfl) (fun _ _ _ h => h) (Or.inl ⟨by rfl, ?hy4⟩) hHeld ?rest4
  case hy4 => (intro w hSw; (try dsimp only at hSw); go_simp; try with_reducible rfl)
  simp only [Act.put, List.setIfInBounds_toArray, List.set_cons_zero, List.set_cons_succ]
  refine wpAnyH_take (i := 5) (oi := { dst := some 10, op := .fieldAddr 44 (.tmp 9) 0, type := _, pos := _, after := _, guard := none }) (v := ?v5) rfl (by kernel_rfl) (by kernel_rfl) (by kernel_rfl) (fun _ _ _ h => h) (Or.inl ⟨by rfl, ?hy5⟩) hHeld ?rest5
  case hy5 => (intro w hSw; (try dsimp only at hSw); go_simp; try with_reducible rfl)
  simp only [Act.put, List.setIfInBounds_toArray, List.set_cons_zero, List.set_cons_succ]
  refine wpAnyH_take (i := 6) (oi := { dst := some 11, op := .load 42 (.tmp 10), type := _, pos := _, after := _, guard := none }) (v := ?v6) rfl (by kernel_rfl) (by kernel_rfl) (by kernel_rfl) (fun _ _ _ h => h) (Or.inl ⟨by rfl, ?hy6⟩) hHeld ?rest6
  case hy6 => (intro w hSw; (try dsimp only at hSw); go_simp; try with_reducible rfl)
  simp only [Act.put, List.setIfInBounds_toArray, List.set_cons_zero, List.set_cons_succ]
  refine wpAnyH_take (i := 8) (oi := { dst := some 13, op := .load 35 (.tmp 2), type := _, pos := _, after := _, guard := none }) (v := ?v8) rfl (by kernel_rfl) (by kernel_rfl) (by kernel_rfl) (fun _ _ _ h => h) (Or.inl ⟨by rfl, ?hy8⟩) hHeld ?rest8
  case hy8 => (intro w hSw; (try dsimp only at hSw); go_simp; try with_reducible rfl)
  simp only [Act.put, List.setIfInBounds_toArray, List.set_cons_zero, List.set_cons_succ]
  refine wpAnyH_take (i := 9) (oi := { dst := some 14, op := .nilCheck (.tmp 13), type := _, pos := _, after := _, guard := none }) (v := ?v9) rfl (by kernel_rfl) (by kernel_rfl) (by kernel_rfl) (fun _ _ _ h => h) (Or.inl ⟨by rfl, ?hy9⟩) hHeld ?rest9
  case hy9 => (intro w hSw; (try dsimp only at hSw); go_simp; try with_reducible rfl)
  simp only [Act.put, List.setIfInBounds_toArray, List.set_cons_zero, List.set_cons_succ]
  refine wpAnyH_take (i := 10) (oi := { dst := some 15, op := .fieldAddr 44 (.tmp 14) 1, type := _, pos := _, after := _, guard := none }) (v := ?v10) rfl (by kernel_rfl) (by kernel_rfl) (by kernel_rfl) (fun _ _ _ h => h) (Or.inl ⟨by rfl, ?hy10⟩) hHeld ?rest10
  case hy10 => (intro w hSw; (try dsimp only at hSw); go_simp; try with_reducible rfl)
  simp only [Act.put, List.setIfInBounds_toArray, List.set_cons_zero, List.set_cons_succ]
  refine wpAnyH_take (i := 11) (oi := { dst := some 16, op := .load 9 (.tmp 15), type := _, pos := _, after := _, guard := none }) (v := ?v11) rfl (by kernel_rfl) (by kernel_rfl) (by kernel_rfl) (fun _ _ _ h => h) (Or.inl ⟨by rfl, ?hy11⟩) hHeld ?rest11
  case hy11 => (intro w hSw; (try dsimp only at hSw); go_simp; try with_reducible rfl)
  simp only [Act.put, List.setIfInBounds_toArray, List.set_cons_zero, List.set_cons_succ]
  refine wpAnyH_take (i := 13) (oi := { dst := some 18, op := .load 35 (.tmp 2), type := _, pos := _, after := _, guard := none }) (v := ?v13) rfl (by kernel_rfl) (by kernel_rfl) (by kernel_rfl) (fun _ _ _ h => h) (Or.inl ⟨by rfl, ?hy13⟩) hHeld ?rest13
  case hy13 => (intro w hSw; (try dsimp only at hSw); go_simp; try with_reducible rfl)
  simp only [Act.put, List.setIfInBounds_toArray, List.set_cons_zero, List.set_cons_succ]
  refine wpAnyH_take (i := 14) (oi := { dst := some 19, op := .nilCheck (.tmp 18), type := _, pos := _, after := _, guard := none }) (v := ?v14) rfl (by kernel_rfl) (by kernel_rfl) (by kernel_rfl) (fun _ _ _ h => h) (Or.inl ⟨by rfl, ?hy14⟩) hHeld ?rest14
  case hy14 => (intro w hSw; (try dsimp only at hSw); go_simp; try with_reducible rfl)
  simp only [Act.put, List.setIfInBounds_toArray, List.set_cons_zero, List.set_cons_succ]
  refine wpAnyH_take (i := 15) (oi := { dst := some 20, op := .fieldAddr 44 (.tmp 19) 2, type := _, pos := _, after := _, guard := none }) (v := ?v15) rfl (by kernel_rfl) (by kernel_rfl) (by kernel_rfl) (fun _ _ _ h => h) (Or.inl ⟨by rfl, ?hy15⟩) hHeld ?rest15
  case hy15 => (intro w hSw; (try dsimp only at hSw); go_simp; try with_reducible rfl)
  simp only [Act.put, List.setIfInBounds_toArray, List.set_cons_zero, List.set_cons_succ]
  refine wpAnyH_take (i := 16) (oi := { dst := some 21, op := .load 9 (.tmp 20), type := _, pos := _, after := _, guard := none }) (v := ?v16) rfl (by kernel_rfl) (by kernel_rfl) (by kernel_rfl) (fun _ _ _ h => h) (Or.inl ⟨by rfl, ?hy16⟩) hHeld ?rest16
  case hy16 => (intro w hSw; (try dsimp only at hSw); go_simp; try with_reducible rfl)
  simp only [Act.put, List.setIfInBounds_toArray, List.set_cons_zero, List.set_cons_succ]
  refine wpAnyH_take (i := 18) (oi := { dst := some 23, op := .load 35 (.tmp 2), type := _, pos := _, after := _, guard := none }) (v := ?v18) rfl (by kernel_rfl) (by kernel_rfl) (by kernel_rfl) (fun _ _ _ h => h) (Or.inl ⟨by rfl, ?hy18⟩) hHeld ?rest18
  case hy18 => (intro w hSw; (try dsimp only at hSw); go_simp; try with_reducible rfl)
  simp only [Act.put, List.setIfInBounds_toArray, List.set_cons_zero, List.set_cons_succ]
  refine wpAnyH_take (i := 19) (oi := { dst := some 24, op := .nilCheck (.tmp 23), type := _, pos := _, after := _, guard := none }) (v := ?v19) rfl (by kernel_rfl) (by kernel_rfl) (by kernel_rfl) (fun _ _ _ h => h) (Or.inl ⟨by rfl, ?hy19⟩) hHeld ?rest19
  case hy19 => (intro w hSw; (try dsimp only at hSw); go_simp; try with_reducible rfl)
  simp only [Act.put, List.setIfInBounds_toArray, List.set_cons_zero, List.set_cons_succ]
  refine wpAnyH_take (i := 20) (oi := { dst := some 25, op := .fieldAddr 44 (.tmp 24) 3, type := _, pos := _, after := _, guard := none }) (v := ?v20) rfl (by kernel_rfl) (by kernel_rfl) (by kernel_rfl) (fun _ _ _ h => h) (Or.inl ⟨by rfl, ?hy20⟩) hHeld ?rest20
  case hy20 => (intro w hSw; (try dsimp only at hSw); go_simp; try with_reducible rfl)
  simp only [Act.put, List.setIfInBounds_toArray, List.set_cons_zero, List.set_cons_succ]
  refine wpAnyH_take (i := 21) (oi := { dst := some 26, op := .load 9 (.tmp 25), type := _, pos := _, after := _, guard := none }) (v := ?v21) rfl (by kernel_rfl) (by kernel_rfl) (by kernel_rfl) (fun _ _ _ h => h) (Or.inl ⟨by rfl, ?hy21⟩) hHeld ?rest21
  case hy21 => (intro w hSw; (try dsimp only at hSw); go_simp; try with_reducible rfl)
  simp only [Act.put, List.setIfInBounds_toArray, List.set_cons_zero, List.set_cons_succ]
  refine par22b (b := b) (s7 := L.act) (s12 := L.iss) (s17 := L.sub) (s22 := L.aud) (by kernel_rfl) ⟨_, _, _, rfl⟩ ⟨_, _, _, rfl⟩ ⟨_, _, _, rfl⟩ ⟨_, _, _, rfl⟩ ⟨_, _, _, rfl⟩ ⟨_, _, _, rfl⟩ (by intro l1 l2 l7 l12 l17 l22; cases l1 <;> cases l2 <;> cases l7 <;> cases l12 <;> cases l17 <;> cases l22 <;> kernel_rfl) ?hS ?hbw ?hend
  case hbw => intro k hk; have := own_lt HO.out k hk; simp; omega
  case hS =>
    intro W hg
    obtain ⟨x1, x2⟩ := HSS.out W b ((Step.drew _ b).trans (step_grown hg))
    exact ⟨x1, (x2 _).trans c0, (x2 _).trans c1, (x2 _).trans c2, (x2 _).trans c3⟩
  case hend =>
    intro u6 u7 u12 u17 u22 u27 W hg F7 F12 F17 F22 F27
    obtain ⟨q7, e7, rfl, _⟩ := F7.shape
    obtain ⟨q12, e12, rfl, _⟩ := F12.shape
    obtain ⟨q17, e17, rfl, _⟩ := F17.shape
    obtain ⟨q22, e22, rfl, _⟩ := F22.shape
    obtain ⟨q27, e27, rfl, _⟩ := F27.shape
    have stW : Step (w.alloc (.cells #[.pointer (some ⟨M, o, none⟩)] 35)) b W b := (Step.drew _ b).trans (step_grown hg)
    have hgs := hg.size
    have hF := fields_built (w1 := W) (b := b) [.slice q7 (bv domain).length e7, .slice q12 (bv L.act.data.toList).length e12, .slice q17 (bv L.iss.data.toList).length e17, .slice q22 (bv L.sub.data.toList).length e22, .slice q27 (bv L.aud.data.toList).length e27] [domain, L.act.data.toList, L.iss.data.toList, L.sub.data.toList, L.aud.data.toList] 5 rfl (fun j hj => by have := own_lt HO.out j hj; simp at hgs; omega) (fun j hj hj2 => by
      match j, hj, hj2 with
      | 0, _, _ => exact F7
      | 1, _, _ => exact F12
      | 2, _, _ => exact F17
      | 3, _, _ => exact F22
      | 4, _, _ => exact F27)
    have hOW : Own B W b bs := HO1.out.drew.step hg
    have h23 := fields23 B [domain, L.act.data.toList, L.iss.data.toList, L.sub.data.toList, L.aud.data.toList] _ b bs _ (hOW.alloc (.cells [Value.slice q7 (bv domain).length e7, .slice q12 (bv L.act.data.toList).length e12, .slice q17 (bv L.iss.data.toList).length e17, .slice q22 (bv L.sub.data.toList).length e22, .slice q27 (bv L.aud.data.toList).length e27].toArray 24)) (by simp at hgs; simp; omega) hF (by omega) (by simp)
    simp only [bv_length] at h23
    refine wpAnyH_all (rs := [23]) (by kernel_rfl) (by simp) ?_
    intro i hi
    obtain rfl : i = 23 := by simpa using hi
    refine wpOp_by (o := { dst := some 28, op := .buildSlice 59 5 #[(0, .tmp 7), (1, .tmp 12), (2, .tmp 17), (3, .tmp 22), (4, .tmp 27)], type := _, pos := _, after := _, guard := none }) rfl (fun K hK => ?_)
    go_simp
    refine hK.out _ _ ⟨?_, ?_⟩
    · obtain ⟨x1, x2⟩ := HSS.out _ b (stW.trans (Step.alloc _ _ _))
      exact ⟨x1, (x2 _).trans c0, (x2 _).trans c1, (x2 _).trans c2, (x2 _).trans c3⟩
    clear hK K hi
    refine wpAnyH_all (rs := [24]) (by kernel_rfl) (by simp) ?_
    intro i hi
    obtain rfl : i = 24 := by simpa using hi
    refine wpOp_by (o := { dst := some 29, op := .call { callee := .value (.func 23), args := #[.tmp 5, .tmp 28], argTypes := #[24, 59] }, type := _, pos := _, after := _, guard := none }) rfl (fun K hK => ?_)
    go_simp
    refine h23.mono ?_
    rintro e w2 ⟨v2, rfl, o2, s2⟩
    have st2 := (stW.trans (Step.alloc _ _ _)).trans s2
    refine hK.out _ _ ⟨?_, ?_⟩
    · obtain ⟨x1, x2⟩ := HSS.out _ _ st2
      exact ⟨x1, (x2 _).trans c0, (x2 _).trans c1, (x2 _).trans c2, (x2 _).trans c3⟩
    clear hK K hi
    refine wpAnyH_all (rs := [25]) (by kernel_rfl) (by simp) ?_
    intro i hi
    obtain rfl : i = 25 := by simpa using hi
    refine wpOp_by (o := { dst := some 1, op := .assign (.tmp 29), type := _, pos := _, after := _, guard := none }) rfl (fun K hK => ?_)
    go_simp
    refine hK.out _ _ ⟨?_, ?_⟩
    · obtain ⟨x1, x2⟩ := HSS.out _ _ st2
      exact ⟨x1, (x2 _).trans c0, (x2 _).trans c1, (x2 _).trans c2, (x2 _).trans c3⟩
    clear hK K hi
    refine wpAnyH_done (by kernel_rfl) ?_ _
    refine NoPanic.normal ?_
    have O2 : Hid (Own B w2 v2 (bs ++ flds [domain, L.act.data.toList, L.iss.data.toList, L.sub.data.toList, L.aud.data.toList])) := o2
    have S2 : Hid (Step (w.alloc (.cells #[.pointer (some ⟨M, o, none⟩)] 35)) b w2 v2) := st2
    clear o2 st2 s2 h23 hOW hF stW F7 F12 F17 F22 F27 hg hHeld
    have hlt2 : w.heap.size + 1 ≤ w2.heap.size := by have := S2.out.1.size; simpa using this
    have st0 : Hid (∀ W v', Step (w.alloc (.cells #[.pointer (some ⟨M, o, none⟩)] 35)) b W v' → Step w b W v') := fun W v' h => (Step.alloc w b _).trans h
    go_wp2_with fail
    refine (nestC24 (.pointer (some ⟨w.heap.size, 0, none⟩)) B (flds (capB L.caps)) v2 _ w2 O2.out (by omega) (by simp only [fld, List.length_append, be8_length] at hlim2 ⊢; omega) (fun w3 v3 o3 s3 => by
      obtain ⟨x1, x2⟩ := HSS.out w3 v3 (S2.out.trans s3)
      have hbel := (st0.out w3 v3 (S2.out.trans s3)).below HO.out hBw
      refine caps25 B w.heap.size M o vc L.caps v3 _ w3 x1 ((x2 _).trans c4) (t1.kept (kept_of_below hbel fun _ h => h)) o3 (by have := hbel.size; omega) ?_ hcl
      simp only [fld, List.length_append, be8_length] at hlim2 ⊢
      omega)).mono ?_
    rintro e w4 ⟨v4, rfl, o4, s4⟩
    have S4 : Hid (Step (w.alloc (.cells #[.pointer (some ⟨M, o, none⟩)] 35)) b w4 v4) := S2.out.trans s4
    have O4 : Hid (Own B w4 v4 (bs ++ flds [domain, L.act.data.toList, L.iss.data.toList, L.sub.data.toList, L.aud.data.toList] ++ fld (flds (capB L.caps)))) := o4
    clear o4 s4 O2 S2
    obtain ⟨pn, cn, rfl, _⟩ := t2.bytes
    have HS3 : Hid (∀ W v', Step (w.alloc (.cells #[.pointer (some ⟨M, o, none⟩)] 35)) b W v' → W.cell? ⟨w.heap.size, 0, none⟩ = some (.pointer (some ⟨M, o, none⟩)) ∧ W.cell? ⟨M, o + 5, none⟩ = some (.slice pn L.nonce.length cn) ∧ W.cell? ⟨M, o + 6, none⟩ = some (.int .i64 L.exp) ∧ W.cell? ⟨M, o + 7, none⟩ = some (.int .i64 L.depth)) := fun W v' st => by
      obtain ⟨x1, x2⟩ := HSS.out W v' st
      exact ⟨x1, (x2 _).trans c5, (x2 _).trans c6, (x2 _).trans c7⟩
    have K4 := HS3.out w4.drew v4 (S4.out.trans (Step.drew w4 v4))
    have hbel4 := (st0.out w4 v4 S4.out).below HO.out hBw
    have hB4 := hbel4.size
    have T2 : Hid (SliceAt (fun x => x < B) w4.drew (.slice pn L.nonce.length cn) (bv L.nonce)) := t2.kept (kept_of_below hbel4 fun _ h => h)
    have HL3 : Hid (bs.length + (flds [domain, L.act.data.toList, L.iss.data.toList, L.sub.data.toList, L.aud.data.toList]).length + (fld (flds (capB L.caps))).length + (flds [L.nonce, be8 (u64 L.exp), be8 (u64 L.depth)]).length + 8 + (sealed r).length ≤ 1000000000) := by
      show _ ≤ _
      simp only [fld, List.length_append, be8_length] at hlim2 ⊢
      omega
    clear hbel4 hlim2 hlim d0 d1 d2 d3 dX hb
    go_wp2
    go_region_held3 (fun W' => W'.cell? ⟨w.heap.size, 0, none⟩ = some (.pointer (some ⟨M, o, none⟩)) ∧ W'.cell? ⟨M, o + 5, none⟩ = some (.slice pn L.nonce.length cn) ∧ W'.cell? ⟨M, o + 6, none⟩ = some (.int .i64 L.exp) ∧ W'.cell? ⟨M, o + 7, none⟩ = some (.int .i64 L.depth)) (first | exact K4 | exact K7 | exact K6a _ | exact K6 | exact K5) (first
      | (go_at_call 26; (with_reducible refine (int26s L.exp w4.drew).mono ?_); rintro e w5 ⟨p5, k5, rfl, f5, g5⟩; have st5 := (S4.out.trans (Step.drew w4 v4)).trans (step_grown g5); have K5 := HS3.out w5 v4 st5)
      | (go_at_call 26; (with_reducible refine (int26s L.depth w5).mono ?_); rintro e w6 ⟨p6, k6, rfl, f6, g6⟩; have st6 := st5.trans (step_grown g6); have K6 := HS3.out w6 v4 st6; have K6a := fun ob => HS3.out (w6.alloc ob) v4 (st6.trans (Step.alloc w6 v4 ob)); have h23 := fields3 O4.out.drew (by simp; omega) T2.out (be8_length _) (be8_length _) g5 f5 g6 f6 (by have := HL3.out; simp only [List.length_append]; omega))
      | (go_at_call 23; (with_reducible refine h23.mono ?_); rintro e w7 ⟨v7, rfl, o7, s7⟩; have st7 := (st6.trans (Step.alloc w6 v4 _)).trans s7; have K7 := HS3.out w7 v7 st7))
    have S7 : Hid (Step (w.alloc (.cells #[.pointer (some ⟨M, o, none⟩)] 35)) b w7 v7) := st7
    have O7 : Hid (Own B w7 v7 (bs ++ flds [domain, L.act.data.toList, L.iss.data.toList, L.sub.data.toList, L.aud.data.toList] ++ fld (flds (capB L.caps)) ++ flds [L.nonce, be8 (u64 L.exp), be8 (u64 L.depth)])) := o7
    have y1 := (HSS.out w7 v7 st7).1
    have y2 := ((HSS.out w7 v7 st7).2 (o + 8)).trans c8
    have hbel7 := (st0.out w7 v7 st7).below HO.out hBw
    have hB7 := hbel7.size
    obtain ⟨qp, rfl⟩ := tok_pointer R
    clear o7 s7 st7 h23 K4 K5 K6 K6a K7 f5 g5 f6 g6 st5 st6 hbel7 O4 S4
    go_wp2_with fail
    refine (nestM24 (.pointer qp) B (sealed r) v7 _ w7 O7.out (by omega) (by have := HL3.out; simp only [List.length_append]; omega) (fun w8 v8 o8 s8 => by
      have hbel := (st0.out w8 v8 (S7.out.trans s8)).below HO.out hBw
      refine IH.out (.pointer qp) v8 _ w8 (TokAt.kept (kept_of_below hbel fun _ h => h) R) o8 (by have := hbel.size; omega) ?_
      have := HL3.out
      simp only [List.length_append, be8_length]
      omega)).mono ?_
    rintro e w9 ⟨v9, rfl, o9, s9⟩
    have O9 : Hid (Own B w9 v9 (bs ++ signed L (sealed r))) := by
      show Own B w9 v9 (bs ++ signed L (sealed r))
      simpa only [signed, List.append_assoc] using o9
    have S9 : Hid (Step w b w9 v9) := st0.out w9 v9 (S7.out.trans s9)
    clear o9 s9
    go_wp2
    go_ret
    exact ⟨_, rfl, O9.out, S9.out⟩
end Go.Proofs.Qxb6618615aDoor
