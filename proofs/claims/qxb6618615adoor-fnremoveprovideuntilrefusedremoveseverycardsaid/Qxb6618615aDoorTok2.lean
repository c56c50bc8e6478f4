/-
  zzSameTok.
-/
import Derived.Test.Qxb6618615aDoorTok
namespace Go.Proofs.Qxb6618615aDoor
open Go.RowKit Go.Lib

set_option maxRecDepth 100000 in
set_option maxHeartbeats 8000000 in
theorem sameTok10 (ok : Nat → Prop) (x y : List Lvl) (v1 v2 : Value) (w : World) (h1 : TokAt ok w x v1) (h2 : TokAt ok w y v2) (hf1 : ∀ L ∈ x, L.fits 140737488355328) (hf2 : ∀ L ∈ y, L.fits 140737488355328) (hl : x.length ≤ 4096) :
    Calls Tryd.prog 10 #[v1, v2] w fun e w' => e = .returned (.bool (alike x y)) ∧ ∃ n, w' = w.drewN n := by
  have H1 : Hid (TokAt ok w x v1) := h1
  have H2 : Hid (TokAt ok w y v2) := h2
  have HF1 : Hid (∀ L ∈ x, L.fits 140737488355328) := hf1
  have HF2 : Hid (∀ L ∈ y, L.fits 140737488355328) := hf2
  clear h1 h2 hf1 hf2
  go_enter Tryd.func10, Tryd.ntmps10
  go_wp2
  go_loopw [0, 1, 5] (fun p q i wr => ∃ (r s : List Lvl) (k n : Nat), i = .int .i64 k ∧ Hid (TokAt ok w r p) ∧ Hid (TokAt ok w s q) ∧ Hid (∀ L ∈ r, L.fits 140737488355328) ∧ Hid (∀ L ∈ s, L.fits 140737488355328) ∧ k + r.length = x.length ∧ Hid (alike x y = alike r s) ∧ wr = w.drewN n) (fun _ _ i _ => 5000 - (intOf i).toNat)
  case atStart => exact ⟨x, y, 0, 0, rfl, H1, H2, HF1, HF2, by omega, rfl, rfl⟩
  case round =>
    obtain ⟨r, s, k, n, rfl, G1, G2, F1, F2, hk, HA, rfl⟩ := hrel
    clear H1 H2 HF1 HF2
    cases r with
    | nil =>
      obtain rfl : _ = Value.pointer none := G1.out
      cases s with
      | nil =>
        obtain rfl : _ = Value.pointer none := G2.out
        have HB : Hid (alike x y = true) := HA.out.trans rfl
        simp only [List.length_nil] at hk
        go_wp2
        go_ret
        exact ⟨ret_b HB.out.symm, _, rfl⟩
      | cons K s =>
        obtain ⟨M2, o2, vc2, vn2, vp2, vs2, rfl, _⟩ := G2.out
        have HB : Hid (alike x y = false) := HA.out.trans rfl
        simp only [List.length_nil] at hk
        go_wp2
        go_ret
        exact ⟨ret_b HB.out.symm, _, rfl⟩
    | cons L r =>
      obtain ⟨M1, o1, vc1, vn1, vp1, vs1, rfl, _, a0, a1, a2, a3, a4, a5, a6, a7, a8, a9, t1, t2, t3, R1⟩ := G1.out
      simp only [List.length_cons] at hk
      cases s with
      | nil =>
        obtain rfl : _ = Value.pointer none := G2.out
        have HB : Hid (alike x y = false) := HA.out.trans rfl
        go_wp2
        go_ret
        exact ⟨ret_b HB.out.symm, _, rfl⟩
      | cons K s =>
        obtain ⟨M2, o2, vc2, vn2, vp2, vs2, rfl, _, b0, b1, b2, b3, b4, b5, b6, b7, b8, b9, z1, z2, z3, R2⟩ := G2.out
        obtain ⟨_, _, _, _, f1, _, f2, f3, _, _⟩ := F1.out L (by simp)
        obtain ⟨_, _, _, _, f4, _, f5, f6, _, _⟩ := F2.out K (by simp)
        have RR1 : Hid (TokAt ok w r vp1) := R1
        have RR2 : Hid (TokAt ok w s vp2) := R2
        have e13 : ∀ W : World, W.heap = w.heap → Calls Tryd.prog 13 #[vc1, vc2] W fun e w' => e = .returned (.bool (decide (L.caps = K.caps))) ∧ ∃ m, w' = W.drewN m := fun W hW => strsEq13 ok L.caps K.caps vc1 vc2 W f1 (SliceAt.kept (w := w) t1 fun _ _ => by rw [hW]) (SliceAt.kept (w := w) z1 fun _ _ => by rw [hW])
        have e14 : ∀ W : World, W.heap = w.heap → Calls Tryd.prog 14 #[vn1, vn2] W fun e w' => e = .returned (.bool (decide (L.nonce = K.nonce))) ∧ ∃ m, w' = W.drewN m := fun W hW => bytesEq14 ok L.nonce K.nonce vn1 vn2 W f2 (SliceAt.kept (w := w) t2 fun _ _ => by rw [hW]) (SliceAt.kept (w := w) z2 fun _ _ => by rw [hW])
        have e15 : ∀ W : World, W.heap = w.heap → Calls Tryd.prog 14 #[vs1, vs2] W fun e w' => e = .returned (.bool (decide (L.sig = K.sig))) ∧ ∃ m, w' = W.drewN m := fun W hW => bytesEq14 ok L.sig K.sig vs1 vs2 W f3 (SliceAt.kept (w := w) t3 fun _ _ => by rw [hW]) (SliceAt.kept (w := w) z3 fun _ _ => by rw [hW])
        have E13 : Hid _ := e13
        have E14 : Hid _ := e14
        have E15 : Hid _ := e15
        clear e13 e14 e15 t1 t2 t3 z1 z2 z3 R1 R2 G1 G2
        by_cases d0 : L.act = K.act
        case neg =>
          have HB : Hid (alike x y = false) := HA.out.trans (alike_other L K r s fun e => d0 (by rw [e]))
          have u0 := strs_other d0
          clear d0 HA E13 E14 E15
          go_wp2
          go_quiet (fail)
          go_wp2
          go_ret
          exact ⟨ret_b HB.out.symm, by first | exact ⟨_, rfl⟩ | exact drewN_two _ _ _⟩
        have u0 := strs_same d0
        have D0 : Hid (L.act = K.act) := d0
        clear d0
        by_cases d1 : L.iss = K.iss
        case neg =>
          have HB : Hid (alike x y = false) := HA.out.trans (alike_other L K r s fun e => d1 (by rw [e]))
          have u1 := strs_other d1
          clear d1 HA E13 E14 E15
          go_wp2
          go_quiet (fail)
          go_wp2
          go_ret
          exact ⟨ret_b HB.out.symm, by first | exact ⟨_, rfl⟩ | exact drewN_two _ _ _⟩
        have u1 := strs_same d1
        have D1 : Hid (L.iss = K.iss) := d1
        clear d1
        by_cases d2 : L.sub = K.sub
        case neg =>
          have HB : Hid (alike x y = false) := HA.out.trans (alike_other L K r s fun e => d2 (by rw [e]))
          have u2 := strs_other d2
          clear d2 HA E13 E14 E15
          go_wp2
          go_quiet (fail)
          go_wp2
          go_ret
          exact ⟨ret_b HB.out.symm, by first | exact ⟨_, rfl⟩ | exact drewN_two _ _ _⟩
        have u2 := strs_same d2
        have D2 : Hid (L.sub = K.sub) := d2
        clear d2
        by_cases d3 : L.aud = K.aud
        case neg =>
          have HB : Hid (alike x y = false) := HA.out.trans (alike_other L K r s fun e => d3 (by rw [e]))
          have u3 := strs_other d3
          clear d3 HA E13 E14 E15
          go_wp2
          go_quiet (fail)
          go_wp2
          go_ret
          exact ⟨ret_b HB.out.symm, by first | exact ⟨_, rfl⟩ | exact drewN_two _ _ _⟩
        have u3 := strs_same d3
        have D3 : Hid (L.aud = K.aud) := d3
        clear d3
        by_cases d4 : L.exp = K.exp
        case neg =>
          have HB : Hid (alike x y = false) := HA.out.trans (alike_other L K r s fun e => d4 (by rw [e]))
          have u4 := int_other d4
          clear d4 HA E13 E14 E15
          go_wp2
          go_quiet (fail)
          go_wp2
          go_ret
          exact ⟨ret_b HB.out.symm, by first | exact ⟨_, rfl⟩ | exact drewN_two _ _ _⟩
        have u4 := int_same d4
        have D4 : Hid (L.exp = K.exp) := d4
        clear d4
        by_cases d5 : L.depth = K.depth
        case neg =>
          have HB : Hid (alike x y = false) := HA.out.trans (alike_other L K r s fun e => d5 (by rw [e]))
          have u5 := int_other d5
          clear d5 HA E13 E14 E15
          go_wp2
          go_quiet (fail)
          go_wp2
          go_ret
          exact ⟨ret_b HB.out.symm, by first | exact ⟨_, rfl⟩ | exact drewN_two _ _ _⟩
        have u5 := int_same d5
        have D5 : Hid (L.depth = K.depth) := d5
        clear d5
        by_cases d6 : L.caps = K.caps
        case neg =>
          have HB : Hid (alike x y = false) := HA.out.trans (alike_other L K r s fun e => d6 (by rw [e]))
          have u6 : decide (L.caps = K.caps) = false := decide_eq_false d6
          clear d6 HA
          go_wp2
          go_quiet (fail)
          go_wp2
          go_quiet (first | (go_at_call_of 13 vc1; exact quiet_sum (E13.out _ (by rfl))) | (go_at_call_of 14 vn1; exact quiet_sum (E14.out _ (by rfl))) | (go_at_call_of 14 vs1; exact quiet_sum (E15.out _ (by rfl))))
          go_wp2
          go_ret
          exact ⟨ret_b HB.out.symm, by first | exact ⟨_, rfl⟩ | exact drewN_two _ _ _ | exact drewN_three _ _ _ _⟩
        have u6 : decide (L.caps = K.caps) = true := decide_eq_true d6
        have D6 : Hid (L.caps = K.caps) := d6
        clear d6
        by_cases d7 : L.nonce = K.nonce
        case neg =>
          have HB : Hid (alike x y = false) := HA.out.trans (alike_other L K r s fun e => d7 (by rw [e]))
          have u7 : decide (L.nonce = K.nonce) = false := decide_eq_false d7
          clear d7 HA
          go_wp2
          go_quiet (fail)
          go_wp2
          go_quiet (first | (go_at_call_of 13 vc1; exact quiet_sum (E13.out _ (by rfl))) | (go_at_call_of 14 vn1; exact quiet_sum (E14.out _ (by rfl))) | (go_at_call_of 14 vs1; exact quiet_sum (E15.out _ (by rfl))))
          go_wp2
          go_ret
          exact ⟨ret_b HB.out.symm, by first | exact ⟨_, rfl⟩ | exact drewN_two _ _ _ | exact drewN_three _ _ _ _⟩
        have u7 : decide (L.nonce = K.nonce) = true := decide_eq_true d7
        have D7 : Hid (L.nonce = K.nonce) := d7
        clear d7
        by_cases d8 : L.sig = K.sig
        case neg =>
          have HB : Hid (alike x y = false) := HA.out.trans (alike_other L K r s fun e => d8 (by rw [e]))
          have u8 : decide (L.sig = K.sig) = false := decide_eq_false d8
          clear d8 HA
          go_wp2
          go_quiet (fail)
          go_wp2
          go_quiet (first | (go_at_call_of 13 vc1; exact quiet_sum (E13.out _ (by rfl))) | (go_at_call_of 14 vn1; exact quiet_sum (E14.out _ (by rfl))) | (go_at_call_of 14 vs1; exact quiet_sum (E15.out _ (by rfl))))
          go_wp2
          go_ret
          exact ⟨ret_b HB.out.symm, by first | exact ⟨_, rfl⟩ | exact drewN_two _ _ _ | exact drewN_three _ _ _ _⟩
        have u8 : decide (L.sig = K.sig) = true := decide_eq_true d8
        have D8 : Hid (L.sig = K.sig) := d8
        clear d8
        have HN : Hid (alike x y = alike r s) := HA.out.trans (alike_cons L K r s (lvl_ext D0.out D1.out D2.out D3.out D6.out D7.out D4.out D5.out D8.out))
        go_wp2
        go_quiet (fail)
        go_wp2
        go_quiet (first | (go_at_call_of 13 vc1; exact quiet_sum (E13.out _ (by rfl))) | (go_at_call_of 14 vn1; exact quiet_sum (E14.out _ (by rfl))) | (go_at_call_of 14 vs1; exact quiet_sum (E15.out _ (by rfl))))
        go_wp2
        exact ⟨⟨r, s, k + 1, _, by go_num, RR1, RR2, fun A hA => F1.out A (by simp [hA]), fun A hA => F2.out A (by simp [hA]), by omega, HN, by first | rfl | (simp only [World.drewN_drewN]; rfl)⟩, by simp [intOf]; omega⟩
end Go.Proofs.Qxb6618615aDoor
