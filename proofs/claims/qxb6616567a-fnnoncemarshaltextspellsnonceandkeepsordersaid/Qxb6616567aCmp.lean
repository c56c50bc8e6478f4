/-
  compareByteSlices at two rows of one length.
-/
import Derived.Test.Qxb6616567aHex
namespace Go.Proofs.Qxb6616567a
open Go.RowKit Pl Go.Lib

theorem take_step (l r : List UInt8) (k : Nat) (hl : k < l.length) (hr : k < r.length) (hp : l.take k = r.take k) (h : (l[k]'hl).toNat = (r[k]'hr).toNat) : l.take (k + 1) = r.take (k + 1) := by
  rw [List.take_succ_eq_append_getElem hl, List.take_succ_eq_append_getElem hr, hp, UInt8.toNat_inj.1 h]

theorem drewN_two (w : World) (a b : Nat) : ∃ m, (w.drewN a).drewN b = w.drewN m := ⟨a + b, by simp [World.drewN, Nat.add_assoc]⟩
theorem drewN_three (w : World) (a b c : Nat) : ∃ m, ((w.drewN a).drewN b).drewN c = w.drewN m := ⟨a + b + c, by simp [World.drewN, Nat.add_assoc]⟩
theorem ret_i {a b : Int} (h : a = b) : Ending.returned (.int .i64 a) = .returned (.int .i64 b) := by rw [h]

set_option maxHeartbeats 1000000 in
theorem cmp10 (l r : List UInt8) (len cap1 cap2 M1 M2 : Nat) (w : World) (hl : l.length = len) (hr : r.length = len) (hlen : len ≤ 1000) (h1 : Text w M1 l) (h2 : Text w M2 r) :
    Calls Try.prog 10 #[.slice (some ⟨M1, 0, none⟩) len cap1, .slice (some ⟨M2, 0, none⟩) len cap2] w fun e w' => e = .returned (.int .i64 (cmpL l r)) ∧ ∃ n, w' = w.drewN n := by
  have HL : Hid (l.length = len) := hl
  have HR : Hid (r.length = len) := hr
  have H1 : Hid (Text w M1 l) := h1
  have H2 : Hid (Text w M2 r) := h2
  have H0 : Hid (l.length = r.length) := hl.trans hr.symm
  clear hl hr h1 h2
  go_enter Try.func10, Try.ntmps10
  go_wp2
  go_loopw [6] (fun i wr => ∃ k : Nat, ∃ n : Nat, k ≤ len ∧ i = .int .i64 k ∧ Hid (l.take k = r.take k) ∧ wr = w.drewN n) (fun i _ => len - (intOf i).toNat)
  case atStart => exact ⟨0, 0, Nat.zero_le _, rfl, rfl, rfl⟩
  case round =>
    obtain ⟨k, n, hk, rfl, HT, rfl⟩ := hrel
    by_cases hlt : k < len
    · have hkl : k < l.length := by rw [HL.out]; exact hlt
      have hkr : k < r.length := by rw [HR.out]; exact hlt
      have c1 := H1.out k hkl
      have c2 := H2.out k hkr
      by_cases ha : (l[k]'hkl).toNat < (r[k]'hkr).toNat
      · have HF : Hid (cmpL l r = -1) := cmp_lt l r k H0.out hkl HT.out ha
        have ha' : decide (((l[k]'hkl).toNat : Int) < ((r[k]'hkr).toNat : Int)) = true := by simp; omega
        go_wp2
        go_quiet (fail)
        go_wp2
        go_ret
        exact ⟨ret_i HF.out.symm, by first | exact ⟨_, rfl⟩ | exact drewN_two _ _ _⟩
      · have ha' : decide (((l[k]'hkl).toNat : Int) < ((r[k]'hkr).toNat : Int)) = false := by simp; omega
        by_cases hb : (r[k]'hkr).toNat < (l[k]'hkl).toNat
        · have HF : Hid (cmpL l r = 1) := cmp_gt l r k H0.out hkl HT.out hb
          have hb' : decide (((r[k]'hkr).toNat : Int) < ((l[k]'hkl).toNat : Int)) = true := by simp; omega
          go_wp2
          go_quiet (fail)
          go_wp2
          go_quiet (fail)
          go_wp2
          go_ret
          exact ⟨ret_i HF.out.symm, by first | exact ⟨_, rfl⟩ | exact drewN_two _ _ _ | exact drewN_three _ _ _ _⟩
        · have HN : Hid (l.take (k + 1) = r.take (k + 1)) := take_step l r k hkl hkr HT.out (by omega)
          have hb' : decide (((r[k]'hkr).toNat : Int) < ((l[k]'hkl).toNat : Int)) = false := by simp; omega
          go_wp2
          go_quiet (fail)
          go_wp2
          go_quiet (fail)
          go_wp2
          go_roundw
          case rel => exact ⟨k + 1, _, by omega, by go_num, HN, by first | rfl | (simp only [World.drewN_drewN]; rfl)⟩
          case measure => simp [intOf]; omega
    · have HF : Hid (cmpL l r = 0) := by
        have h := HT.out
        rw [List.take_of_length_le (by rw [HL.out]; omega), List.take_of_length_le (by rw [HR.out]; omega)] at h
        show cmpL l r = 0
        rw [h]; exact cmp_same r
      go_wp2
      go_ret
      exact ⟨ret_i HF.out.symm, _, rfl⟩
end Go.Proofs.Qxb6616567a
