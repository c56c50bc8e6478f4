/-
  appendSealed.
-/
import Derived.Test.Qxb6618615aDoorSigned
namespace Go.Proofs.Qxb6618615aDoor
open Go.RowKit Go.Lib
set_option linter.unusedVariables false
set_option linter.unusedSimpArgs false

/-- An append to one's own, run. -/
theorem run24 (ty : TypeId) (B : Nat) (w : World) (v : Value) (bs : List UInt8) (hown : Own B w v bs) (hBw : B ≤ w.heap.size) (ok : Nat → Prop) (xv : Value) (f : List UInt8) (hf : SliceAt ok w xv (bv f)) (hlim : bs.length + f.length ≤ 140737488355328) :
    ∃ v' w', (Builtin.append_ #[24, 24] ty #[v, xv]).run Tryd.prog w = .ok v' w' ∧ Own B w' v' (bs ++ f) ∧ Step w v w' v' := by
  obtain ⟨i0, hi, hz0, hz1, hz2⟩ := info5
  obtain ⟨p, c, rfl, hc⟩ := hf.shape
  rw [bv_length]
  cases p with
  | none =>
    obtain ⟨h1, h2, h3⟩ := hf.none_zero
    have h4 : f = [] := List.eq_nil_of_length_eq_zero (by rwa [bv_length] at h2)
    subst h4 h3
    exact ⟨v, w, run_append_owned_none (P := Tryd.prog) (w := w) B 24 ty 5 i0 1 Tryd.underlying24 hi v bs.length (bv bs) hown, by rw [List.append_nil]; exact hown, Step.refl w v⟩
  | some ad =>
    obtain ⟨v', w', hr, g1, g2, _, g3⟩ := run_append_own_at (P := Tryd.prog) w B 24 ty 5 i0 (.int .u8 0) 1 1 Tryd.underlying24 hi hz0 hz1 hz2 rfl (by decide) v bs.length (bv bs) hown ad f.length c (bv f) (by simp) (fun j u hj => by
      have hjl : j < (bv f).length := (List.getElem?_eq_some_iff.1 hj).1
      obtain ⟨M, o, e, _, hcell⟩ := hc (by omega)
      cases e
      rw [Addr.add_lit, hcell j hjl, ← hj, List.getElem?_eq_getElem hjl]) (bv_one f) (by unfold maxLen; omega) (by omega) hBw
    refine ⟨v', w', hr, ?_, g2, fun k hk => ?_⟩
    · unfold Own
      rw [bv_append, List.length_append]
      exact g1
    · rcases g3 with e | e
      · exact .inl (e ▸ hk)
      · rw [e] at hk
        cases hk
        exact .inr (Nat.le_refl _)
theorem wp24 {ops : Array Oper} {a : Act} {K : Act → World → Prop} {Q : Exit → Act → World → Prop} {d : Option Tmp} {s x : Operand} {pos : String} {af : Array Edge} (w : World) (v xv v' : Value) (w' : World) (hs : a.eval s = v) (hx : a.eval x = xv)
    (hr : (Builtin.append_ #[24, 24] 24 #[v, xv]).run Tryd.prog w = .ok v' w') (h : K (a.put d v') w') :
    if Region.wanted { dst := d, op := .call { callee := .builtin .append, args := #[s, x], argTypes := #[24, 24] }, type := 24, pos := pos, after := af, guard := none } (yielded ops a.tmps) = true then Oper.wp Tryd.prog { dst := d, op := .call { callee := .builtin .append, args := #[s, x], argTypes := #[24, 24] }, type := 24, pos := pos, after := af, guard := none } a w K Q else K (a.put d undef) w := by
  rw [if_pos (by rfl)]
  unfold Oper.wp execOp
  simp only [resolve, invoke, builtin, Sem.run_bind, Sem.run_pure, Result.andThen_ok, List.map_toArray, List.map_cons, List.map_nil, hs, hx, hr]
  exact h

set_option maxHeartbeats 8000000 in
set_option maxRecDepth 100000 in
theorem sealed21 (B : Nat) : ∀ t : List Lvl, (∀ L ∈ t, L.caps.length ≤ 1048576) → Sealed21 B t := by
  intro t
  induction t with
  | nil =>
    intro _ v b bs w ht ho hB hl
    cases (show v = .pointer none from ht)
    obtain ⟨p, c, rfl⟩ := ho.slice
    have HO : Hid (Own B w (.slice p bs.length c) bs) := ho
    clear ho
    go_enter Tryd.func21, Tryd.ntmps21
    go_wp2
    go_ret
    exact ⟨_, rfl, by show Own B w _ (bs ++ []); rw [List.append_nil]; exact HO.out, Step.refl _ _⟩
  | cons L r ih =>
    intro hf v b bs w ht ho hB hl
    have ih' := ih fun K hK => hf K (by simp [hK])
    have hlen : (sealed (L :: r)).length = (signed L (sealed r)).length + L.sig.length := by simp [sealed]
    have h22 := signed22 B L r ih' v b bs w.drew (TokAt.kept (w := w) (w' := w.drew) (fun _ _ => rfl) ht) ho.drew hB (by omega) (hf L (by simp))
    obtain ⟨M, o, vc, vn, vp, vs, rfl, hM, c0, c1, c2, c3, c4, c5, c6, c7, c8, c9, t1, t2, t3, R⟩ := ht
    have H22 : Hid (Calls Tryd.prog 22 #[.pointer (some ⟨M, o, none⟩), b] w.drew (App B w.drew b bs (signed L (sealed r)))) := h22
    have HO : Hid (Own B w b bs) := ho
    have HL : Hid (bs.length + (signed L (sealed r)).length + L.sig.length ≤ 1000000000) := by show _ ≤ _; omega
    have hMw : M < w.heap.size := by omega
    obtain ⟨ps, cs, rfl, _⟩ := t3.bytes
    have T3 : Hid (SliceAt (fun x => x < B) w (.slice ps L.sig.length cs) (bv L.sig)) := t3
    clear h22 ih ih' hf t1 t2 R ho hl hlen
    go_enter Tryd.func21, Tryd.ntmps21
    go_wp2
    go_region_held3 (fun W' => W'.cell? ⟨M, o + 9, none⟩ = some (.slice ps L.sig.length cs)) (first | exact c9 | exact K2 | exact K3) (first
      | (go_at_call 22; (with_reducible refine H22.out.mono ?_); rintro e w1 ⟨v1, rfl, o1, s1⟩; have st1 := (Step.drew w b).trans s1; have hbel := st1.below HO.out hB; have K2 := (hbel.cell (p := ⟨M, o + 9, none⟩) hM).trans c9; obtain ⟨v2, w2, hrun, o2, s2⟩ := run24 24 B w1 v1 _ o1 (by have := hbel.size; omega) _ _ L.sig (T3.out.kept (kept_of_below hbel fun _ h => h)) (by have := HL.out; simp only [List.length_append]; omega); have st2 := st1.trans s2; have K3 := ((st2.below HO.out hB).cell (p := ⟨M, o + 9, none⟩) hM).trans c9)
      | (refine wp24 w1 v1 _ v2 w2 rfl rfl hrun ?_))
    have O2 : Hid (Own B w2 v2 (bs ++ sealed (L :: r))) := by
      show Own B w2 v2 (bs ++ sealed (L :: r))
      simpa only [sealed, List.append_assoc] using o2
    have S2 : Hid (Step w b w2 v2) := st2
    clear o2 st2 s2 hrun K2 K3 o1 s1 st1 hbel
    go_wp2
    go_ret
    exact ⟨_, rfl, O2.out, S2.out⟩
end Go.Proofs.Qxb6618615aDoor
