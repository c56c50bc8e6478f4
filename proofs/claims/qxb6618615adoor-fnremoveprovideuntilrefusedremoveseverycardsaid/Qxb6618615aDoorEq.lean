/-
  zzStringsEq, zzBytesEq.
-/
import Derived.Test.Qxb6618615aDoorBase
namespace Go.Proofs.Qxb6618615aDoor
open Go.RowKit Go.Lib

theorem take_step {α : Type} (l r : List α) (k : Nat) (hl : k < l.length) (hr : k < r.length) (hp : l.take k = r.take k) (h : l[k]'hl = r[k]'hr) : l.take (k + 1) = r.take (k + 1) := by
  rw [List.take_succ_eq_append_getElem hl, List.take_succ_eq_append_getElem hr, hp, h]
theorem take_all {α : Type} (l r : List α) (n k : Nat) (hl : l.length = n) (hr : r.length = n) (hk : n ≤ k) (hp : l.take k = r.take k) : l = r := by
  rwa [List.take_of_length_le (by omega), List.take_of_length_le (by omega)] at hp
theorem ne_at {α : Type} (l r : List α) (k : Nat) (hl : k < l.length) (hr : k < r.length) (h : l[k]'hl ≠ r[k]'hr) : l ≠ r := by
  intro e
  subst e
  exact h rfl
theorem strs_same {a b : ByteArray} (h : a = b) : (!(a.toList == b.toList)) = false := by rw [h]; simp
theorem strs_other {a b : ByteArray} (h : a ≠ b) : (!(a.toList == b.toList)) = true := by
  rw [Bool.not_eq_true', beq_eq_false_iff_ne]
  intro e
  rw [ByteArray.toList_eq, ByteArray.toList_eq] at e
  exact h (Go.WideShapes.bytes_inj e)
theorem ints_same {a b : UInt8} (h : a = b) : ((a.toNat : Int) != (b.toNat : Int)) = false := by rw [h]; simp
theorem ints_other {a b : UInt8} (h : a ≠ b) : ((a.toNat : Int) != (b.toNat : Int)) = true := by
  rw [bne_iff_ne]
  exact fun e => h (UInt8.toNat_inj.1 (by omega))

set_option maxHeartbeats 1000000 in
theorem bytesEq14 (ok : Nat → Prop) (l r : List UInt8) (v1 v2 : Value) (w : World) (hl : l.length ≤ 140737488355328) (s1 : SliceAt ok w v1 (bv l)) (s2 : SliceAt ok w v2 (bv r)) :
    Calls Tryd.prog 14 #[v1, v2] w fun e w' => e = .returned (.bool (decide (l = r))) ∧ ∃ n, w' = w.drewN n := by
  obtain ⟨p1, c1, rfl, h1⟩ := s1.bytes
  obtain ⟨p2, c2, rfl, h2⟩ := s2.bytes
  clear s1 s2
  by_cases hlen : l.length = r.length
  · rw [← hlen]
    obtain ⟨len, HL⟩ : ∃ len, Hid (l.length = len) := ⟨_, rfl⟩
    have HR : Hid (r.length = len) := hlen.symm.trans HL.out
    rw [HL.out] at hl ⊢
    clear hlen
    have H1 : Hid _ := h1
    have H2 : Hid _ := h2
    clear h1 h2
    go_enter Tryd.func14, Tryd.ntmps14
    go_wp2
    go_loopw [5] (fun i wr => ∃ k : Nat, ∃ n : Nat, k ≤ len ∧ i = .int .i64 k ∧ Hid (l.take k = r.take k) ∧ wr = w.drewN n) (fun i _ => len - (intOf i).toNat)
    case atStart => exact ⟨0, 0, Nat.zero_le _, rfl, rfl, rfl⟩
    case round =>
      obtain ⟨k, n, hk, rfl, HT, rfl⟩ := hrel
      by_cases hlt : k < len
      · obtain ⟨M1, o1, rfl, _, g1⟩ := H1.out (by rw [HL.out]; omega)
        obtain ⟨M2, o2, rfl, _, g2⟩ := H2.out (by rw [HR.out]; omega)
        clear H1 H2
        have hkl : k < l.length := by rw [HL.out]; exact hlt
        have hkr : k < r.length := by rw [HR.out]; exact hlt
        have c1 := g1 k (by rw [HL.out]; exact hlt)
        have c2 := g2 k (by rw [HR.out]; exact hlt)
        clear g1 g2
        by_cases ha : l[k]'hkl = r[k]'hkr
        · have ha' := ints_same ha
          have HN : Hid (l.take (k + 1) = r.take (k + 1)) := take_step l r k hkl hkr HT.out ha
          clear ha
          go_wp2
          go_quiet (fail)
          go_wp2
          exact ⟨⟨k + 1, _, by omega, by go_num, HN, rfl⟩, by simp [intOf]; omega⟩
        · have ha' := ints_other ha
          have HF : Hid (decide (l = r) = false) := by
            show decide (l = r) = false
            exact decide_eq_false (ne_at l r k hkl hkr ha)
          clear ha
          go_wp2
          go_quiet (fail)
          go_wp2
          go_ret
          exact ⟨ret_b HF.out.symm, by first | exact ⟨_, rfl⟩ | exact drewN_two _ _ _⟩
      · have HF : Hid (decide (l = r) = true) := by
          show decide (l = r) = true
          exact decide_eq_true (take_all l r len k HL.out HR.out (by omega) HT.out)
        go_wp2
        go_ret
        exact ⟨ret_b HF.out.symm, _, rfl⟩
  · have HF : Hid (decide (l = r) = false) := by
      show decide (l = r) = false
      exact decide_eq_false fun e => hlen (by rw [e])
    clear h1 h2
    go_enter Tryd.func14, Tryd.ntmps14
    go_wp2
    go_ret
    exact ⟨ret_b HF.out.symm, 0, rfl⟩

set_option maxHeartbeats 1000000 in
theorem strsEq13 (ok : Nat → Prop) (l r : List ByteArray) (v1 v2 : Value) (w : World) (hl : l.length ≤ 140737488355328) (s1 : SliceAt ok w v1 (sv l)) (s2 : SliceAt ok w v2 (sv r)) :
    Calls Tryd.prog 13 #[v1, v2] w fun e w' => e = .returned (.bool (decide (l = r))) ∧ ∃ n, w' = w.drewN n := by
  obtain ⟨p1, c1, rfl, h1⟩ := s1.strs
  obtain ⟨p2, c2, rfl, h2⟩ := s2.strs
  clear s1 s2
  by_cases hlen : l.length = r.length
  · rw [← hlen]
    obtain ⟨len, HL⟩ : ∃ len, Hid (l.length = len) := ⟨_, rfl⟩
    have HR : Hid (r.length = len) := hlen.symm.trans HL.out
    rw [HL.out] at hl ⊢
    clear hlen
    have H1 : Hid _ := h1
    have H2 : Hid _ := h2
    clear h1 h2
    go_enter Tryd.func13, Tryd.ntmps13
    go_wp2
    go_loopw [5] (fun i wr => ∃ k : Nat, ∃ n : Nat, k ≤ len ∧ i = .int .i64 k ∧ Hid (l.take k = r.take k) ∧ wr = w.drewN n) (fun i _ => len - (intOf i).toNat)
    case atStart => exact ⟨0, 0, Nat.zero_le _, rfl, rfl, rfl⟩
    case round =>
      obtain ⟨k, n, hk, rfl, HT, rfl⟩ := hrel
      by_cases hlt : k < len
      · obtain ⟨M1, o1, rfl, _, g1⟩ := H1.out (by rw [HL.out]; omega)
        obtain ⟨M2, o2, rfl, _, g2⟩ := H2.out (by rw [HR.out]; omega)
        clear H1 H2
        have hkl : k < l.length := by rw [HL.out]; exact hlt
        have hkr : k < r.length := by rw [HR.out]; exact hlt
        have c1 := g1 k (by rw [HL.out]; exact hlt)
        have c2 := g2 k (by rw [HR.out]; exact hlt)
        clear g1 g2
        by_cases ha : l[k]'hkl = r[k]'hkr
        · have ha' := strs_same ha
          have HN : Hid (l.take (k + 1) = r.take (k + 1)) := take_step l r k hkl hkr HT.out ha
          clear ha
          go_wp2
          go_quiet (fail)
          go_wp2
          exact ⟨⟨k + 1, _, by omega, by go_num, HN, rfl⟩, by simp [intOf]; omega⟩
        · have ha' := strs_other ha
          have HF : Hid (decide (l = r) = false) := by
            show decide (l = r) = false
            exact decide_eq_false (ne_at l r k hkl hkr ha)
          clear ha
          go_wp2
          go_quiet (fail)
          go_wp2
          go_ret
          exact ⟨ret_b HF.out.symm, by first | exact ⟨_, rfl⟩ | exact drewN_two _ _ _⟩
      · have HF : Hid (decide (l = r) = true) := by
          show decide (l = r) = true
          exact decide_eq_true (take_all l r len k HL.out HR.out (by omega) HT.out)
        go_wp2
        go_ret
        exact ⟨ret_b HF.out.symm, _, rfl⟩
  · have HF : Hid (decide (l = r) = false) := by
      show decide (l = r) = false
      exact decide_eq_false fun e => hlen (by rw [e])
    clear h1 h2
    go_enter Tryd.func13, Tryd.ntmps13
    go_wp2
    go_ret
    exact ⟨ret_b HF.out.symm, 0, rfl⟩
end Go.Proofs.Qxb6618615aDoor
