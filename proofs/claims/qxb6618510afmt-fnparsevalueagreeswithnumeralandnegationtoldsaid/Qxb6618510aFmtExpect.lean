/-
  zzNumeral in one; zzExpectValue.
-/
import Derived.Test.Qxb6618510aFmtNumWalk
namespace Go.Proofs.Qxb6618510aFmt
open Go.RowKit Pl

theorem num_any (s : ByteArray) (w : World) (hmax : s.size ≤ 281474976710656) :
    Calls Tryf.prog 8 #[.string s] w fun e w' => e = .returned (numVal (numeral s.data.toList)) ∧ ∃ n, w' = w.drewN n := by
  have hl : s.data.toList.length = s.size := Array.length_toList
  by_cases h0 : s.size = 0
  · refine (num_empty s w h0).mono ?_
    rintro e w' ⟨rfl, rfl⟩
    have : s.data.toList = [] := List.length_eq_zero_iff.1 (by omega)
    exact ⟨by unfold numeral; rw [if_pos (Or.inl this)]; rfl, 0, rfl⟩
  · cases ha : allD s.data.toList with
    | false =>
      refine (num_bad s w (by omega) ha hmax).mono ?_
      rintro e w' ⟨rfl, rfl⟩
      exact ⟨by unfold numeral; rw [if_pos (Or.inr ha)]; rfl, 0, rfl⟩
    | true => exact num_ok s w (by omega) ha hmax

theorem ret_ib {a b : Int} {c : Bool} (h : a = b) : Ending.returned (.tuple #[.int .i64 a, .bool c]) = .returned (.tuple #[.int .i64 b, .bool c]) := by rw [h]
theorem conv_neg (m : Nat) (hm : m ≤ 9223372036854775808) : wrap64 (IntKind.u64.wrap (-(m : Int))) = -(m : Int) := by
  rw [IntKind.wrap_u64]; unfold wrap64; omega

set_option maxHeartbeats 400000 in
theorem exp_neg_ok (s : ByteArray) (m : Nat) (w : World) (h0 : 0 < s.size) (h45 : ((s[0].toNat : Int) == 45) = true) (hm : m ≤ 9223372036854775808)
    (hc : ∀ w, Calls Tryf.prog 8 #[.string (s.extract 1 s.size)] w fun e w' => e = .returned (.tuple #[.int .u64 (m : Int), .bool true, .bool false]) ∧ ∃ n, w' = w.drewN n) :
    Calls Tryf.prog 7 #[.string s] w fun e w' => e = .returned (.tuple #[.int .i64 (-(m : Int)), .bool true]) ∧ ∃ n, w' = w.drewN n := by
  go_enter Tryf.func7, Tryf.ntmps7
  go_wp2_with fail
  refine (hc _).mono ?_
  rintro e w1 ⟨rfl, n, rfl⟩
  go_wp2
  go_ret2
  exact ⟨ret_ib (conv_neg m hm), n, rfl⟩

set_option maxHeartbeats 400000 in
theorem exp_neg_dig (s : ByteArray) (m : Nat) (w : World) (h0 : 0 < s.size) (h45 : ((s[0].toNat : Int) == 45) = true) (bg : Bool)
    (hc : ∀ w, Calls Tryf.prog 8 #[.string (s.extract 1 s.size)] w fun e w' => e = .returned (.tuple #[.int .u64 (m : Int), .bool false, .bool bg]) ∧ ∃ n, w' = w.drewN n) :
    Calls Tryf.prog 7 #[.string s] w fun e w' => e = .returned (.tuple #[.int .i64 0, .bool false]) ∧ ∃ n, w' = w.drewN n := by
  go_enter Tryf.func7, Tryf.ntmps7
  go_wp2_with fail
  refine (hc _).mono ?_
  rintro e w1 ⟨rfl, n, rfl⟩
  go_wp2
  go_ret2
  exact ⟨rfl, n, rfl⟩

set_option maxHeartbeats 400000 in
theorem exp_neg_big (s : ByteArray) (m : Nat) (w : World) (h0 : 0 < s.size) (h45 : ((s[0].toNat : Int) == 45) = true) 
    (hc : ∀ w, Calls Tryf.prog 8 #[.string (s.extract 1 s.size)] w fun e w' => e = .returned (.tuple #[.int .u64 (m : Int), .bool true, .bool true]) ∧ ∃ n, w' = w.drewN n) :
    Calls Tryf.prog 7 #[.string s] w fun e w' => e = .returned (.tuple #[.int .i64 0, .bool false]) ∧ ∃ n, w' = w.drewN n := by
  go_enter Tryf.func7, Tryf.ntmps7
  go_wp2_with fail
  refine (hc _).mono ?_
  rintro e w1 ⟨rfl, n, rfl⟩
  go_wp2
  go_ret2
  exact ⟨rfl, n, rfl⟩

set_option maxHeartbeats 400000 in
theorem exp_pos_ok (s : ByteArray) (m : Nat) (w : World) (hn : ∀ h : 0 < s.size, ((s[0].toNat : Int) == 45) = false) (_hm : m < 9223372036854775808)
    (hc : ∀ w, Calls Tryf.prog 8 #[.string s] w fun e w' => e = .returned (.tuple #[.int .u64 (m : Int), .bool true, .bool false]) ∧ ∃ n, w' = w.drewN n) :
    Calls Tryf.prog 7 #[.string s] w fun e w' => e = .returned (.tuple #[.int .i64 (m : Int), .bool true]) ∧ ∃ n, w' = w.drewN n := by
  by_cases h0 : 0 < s.size
  all_goals
    first | have h45 := hn h0 | skip
    go_enter Tryf.func7, Tryf.ntmps7
    go_wp2_with fail
    refine (hc _).mono ?_
    rintro e w1 ⟨rfl, n, rfl⟩
    go_wp2
    go_ret2
    exact ⟨rfl, n, rfl⟩

set_option maxHeartbeats 400000 in
theorem exp_pos_dig (s : ByteArray) (m : Nat) (w : World) (hn : ∀ h : 0 < s.size, ((s[0].toNat : Int) == 45) = false) (bg : Bool)
    (hc : ∀ w, Calls Tryf.prog 8 #[.string s] w fun e w' => e = .returned (.tuple #[.int .u64 (m : Int), .bool false, .bool bg]) ∧ ∃ n, w' = w.drewN n) :
    Calls Tryf.prog 7 #[.string s] w fun e w' => e = .returned (.tuple #[.int .i64 0, .bool false]) ∧ ∃ n, w' = w.drewN n := by
  by_cases h0 : 0 < s.size
  all_goals
    first | have h45 := hn h0 | skip
    go_enter Tryf.func7, Tryf.ntmps7
    go_wp2_with fail
    refine (hc _).mono ?_
    rintro e w1 ⟨rfl, n, rfl⟩
    go_wp2
    go_ret2
    exact ⟨rfl, n, rfl⟩

set_option maxHeartbeats 400000 in
theorem exp_pos_big (s : ByteArray) (m : Nat) (w : World) (hn : ∀ h : 0 < s.size, ((s[0].toNat : Int) == 45) = false) 
    (hc : ∀ w, Calls Tryf.prog 8 #[.string s] w fun e w' => e = .returned (.tuple #[.int .u64 (m : Int), .bool true, .bool true]) ∧ ∃ n, w' = w.drewN n) :
    Calls Tryf.prog 7 #[.string s] w fun e w' => e = .returned (.tuple #[.int .i64 0, .bool false]) ∧ ∃ n, w' = w.drewN n := by
  by_cases h0 : 0 < s.size
  all_goals
    first | have h45 := hn h0 | skip
    go_enter Tryf.func7, Tryf.ntmps7
    go_wp2_with fail
    refine (hc _).mono ?_
    rintro e w1 ⟨rfl, n, rfl⟩
    go_wp2
    go_ret2
    exact ⟨rfl, n, rfl⟩

set_option maxHeartbeats 400000 in
theorem exp_pos_two (s : ByteArray) (m : Nat) (w : World) (hn : ∀ h : 0 < s.size, ((s[0].toNat : Int) == 45) = false) (_hm : 9223372036854775807 < m)
    (hc : ∀ w, Calls Tryf.prog 8 #[.string s] w fun e w' => e = .returned (.tuple #[.int .u64 (m : Int), .bool true, .bool false]) ∧ ∃ n, w' = w.drewN n) :
    Calls Tryf.prog 7 #[.string s] w fun e w' => e = .returned (.tuple #[.int .i64 0, .bool false]) ∧ ∃ n, w' = w.drewN n := by
  by_cases h0 : 0 < s.size
  all_goals
    first | have h45 := hn h0 | skip
    go_enter Tryf.func7, Tryf.ntmps7
    go_wp2_with fail
    refine (hc _).mono ?_
    rintro e w1 ⟨rfl, n, rfl⟩
    go_wp2
    go_ret2
    exact ⟨rfl, n, rfl⟩

theorem head_neg (s : ByteArray) : neg s.data.toList = true ↔ ∃ h : 0 < s.size, ((s[0].toNat : Int) == 45) = true := by
  have hl : s.data.toList.length = s.size := Array.length_toList
  cases e : s.data.toList with
  | nil =>
    rw [e] at hl
    constructor
    · intro h; cases h
    · rintro ⟨h, _⟩; simp at hl; omega
  | cons c r =>
    rw [e] at hl
    simp only [List.length_cons] at hl
    have h0 : s[0]'(by omega) = c := by
      have h1 : s[0]'(by omega) = s.data.toList[0]'(by rw [e]; simp) := rfl
      rw [h1]; simp [e]
    rw [neg_cons, decide_eq_true_eq]
    constructor
    · intro h; exact ⟨by omega, by rw [h0, beq_iff_eq]; omega⟩
    · rintro ⟨_, h⟩; rw [h0, beq_iff_eq] at h; omega

/-- zzExpectValue says what 'pv' says. -/
def expVal (r : Option Int) : Value := .tuple #[.int .i64 (r.getD 0), .bool r.isSome]
theorem exp_any (s : ByteArray) (w : World) (hmax : s.size ≤ 281474976710656) :
    Calls Tryf.prog 7 #[.string s] w fun e w' => e = .returned (expVal (pv s.data.toList)) ∧ ∃ n, w' = w.drewN n := by
  cases hn : neg s.data.toList with
  | true =>
    obtain ⟨h0, h45⟩ := (head_neg s).1 hn
    have htl : (s.extract 1 s.size).data.toList = s.data.toList.drop 1 := ext_size s 1
    have hsz : (s.extract 1 s.size).size ≤ 281474976710656 := by
      have h1 : (s.extract 1 s.size).data.toList.length = (s.extract 1 s.size).size := Array.length_toList
      rw [← h1, htl, List.length_drop]; simp; omega
    have hc := fun w => num_any (s.extract 1 s.size) w hsz
    have hm : mag s.data.toList = s.data.toList.drop 1 := by
      unfold mag
      unfold neg at hn
      rw [if_pos (by simpa using hn), List.drop_one]
    rw [htl] at hc
    unfold pv
    rw [hm, hn]
    unfold numeral at hc
    generalize s.data.toList.drop 1 = l at *
    by_cases hb : l = [] ∨ allD l = false
    · simp only [if_pos hb] at hc ⊢
      exact exp_neg_dig s 0 w h0 h45 false hc
    · simp only [if_neg hb] at hc ⊢
      by_cases hg : 9223372036854775808 < dv 0 l
      · simp only [if_pos hg] at hc
        rw [if_pos trivial, if_neg (by omega)]
        exact exp_neg_big s 0 w h0 h45 hc
      · simp only [if_neg hg] at hc
        rw [if_pos trivial, if_pos (by omega)]
        exact exp_neg_ok s (dv 0 l) w h0 h45 (by omega) hc
  | false =>
    have hh : ∀ h : 0 < s.size, ((s[0].toNat : Int) == 45) = false := by
      intro h
      cases hx : ((s[0].toNat : Int) == 45) with
      | false => rfl
      | true => rw [(head_neg s).2 ⟨h, hx⟩] at hn; cases hn
    have hc := fun w => num_any s w hmax
    rw [pv_plain _ hn]
    unfold numeral at hc
    by_cases hb : s.data.toList = [] ∨ allD s.data.toList = false
    · simp only [if_pos hb] at hc ⊢
      exact exp_pos_dig s 0 w hh false hc
    · simp only [if_neg hb] at hc ⊢
      by_cases hg : 9223372036854775808 < dv 0 s.data.toList
      · simp only [if_pos hg] at hc
        rw [if_neg (by omega)]
        exact exp_pos_big s 0 w hh hc
      · simp only [if_neg hg] at hc
        by_cases ht : dv 0 s.data.toList < 9223372036854775808
        · rw [if_pos ht]
          exact exp_pos_ok s (dv 0 s.data.toList) w hh ht hc
        · rw [if_neg ht]
          exact exp_pos_two s (dv 0 s.data.toList) w hh (by omega) hc
end Go.Proofs.Qxb6618510aFmt
