/-
  The walk of the law FnParseValueAgreesWithNumeralAndNegation.
-/
import Derived.Test.Qxb6618510aFmtAppend
import Derived.Test.Qxb6618510aFmtExpect
namespace Go.Proofs.Qxb6618510aFmt
open Go.RowKit Pl Go.Extern.Stop Go.Stop Go.Extern

theorem bytes5 (s : ByteArray) (w : World) (h : s.size ≤ 1048576) : Calls Tryf.prog 5 #[.string s] w fun e w' => e = .returned (.bool true) ∧ w' = w := by
  go_enter Tryf.func5, Tryf.ntmps5
  go_wp2
  go_ret
  exact ⟨rfl, rfl⟩
theorem bytes5_no (s : ByteArray) (w : World) (h : 1048576 < s.size) : Calls Tryf.prog 5 #[.string s] w fun e w' => e = .returned (.bool false) ∧ w' = w := by
  go_enter Tryf.func5, Tryf.ntmps5
  go_wp2
  go_ret
  exact ⟨rfl, rfl⟩
theorem agr_long (s : ByteArray) (w : World) (h : 1048576 < s.size) : Calls Tryf.prog 3 #[.string s] w fun e w' => e = .returned (.bool true) ∧ Below w.heap.size w w' := by
  go_enter Tryf.func3, Tryf.ntmps3
  go_wp2_with (go_at_call 5; refine (bytes5_no s _ h).mono ?_; rintro e w' ⟨rfl, rfl⟩)
  go_ret
  exact ⟨rfl, Below.refl _ _⟩
theorem below_drewN {B : Nat} {a w : World} (h : Below B a w) (q : Nat) : Below B a (w.drewN q) := ⟨h.os, h.tape, h.output, h.size, h.block⟩

set_option maxHeartbeats 400000 in
theorem agr_A (s : ByteArray) (w : World) (h : s.size ≤ 1048576) (he : ((s.size : Int) == 0) = true)
    (hc1 : Calls Tryf.prog 6 #[.string s] w fun e w' => Res (none) e ∧ Below w.heap.size w w')
    (hc2 : ∀ w1, Below w.heap.size w w1 → Calls Tryf.prog 6 #[.string (⟨#[45]⟩ ++ s)] w1 fun e w' => Res (none) e ∧ Below w.heap.size w1 w')
    (hc7 : ∀ w, Calls Tryf.prog 7 #[.string s] w fun e w' => e = .returned (.tuple #[.int .i64 0, .bool false]) ∧ ∃ n, w' = w.drewN n) :
    Calls Tryf.prog 3 #[.string s] w fun e w' => e = .returned (.bool true) ∧ Below w.heap.size w w' := by
  go_enter Tryf.func3, Tryf.ntmps3
  go_wp2_with (go_at_call 5; refine (bytes5 s _ h).mono ?_; rintro e w' ⟨rfl, rfl⟩)
  refine hc1.mono ?_
  rintro e w1 ⟨⟨a1, rfl⟩, hb1⟩
  go_wp2_with fail
  refine (hc2 _ hb1).mono ?_
  rintro e w2 ⟨⟨a2, rfl⟩, hb2⟩
  go_wp2_with fail
  refine (hc7 _).mono ?_
  rintro e w3 ⟨rfl, n, rfl⟩
  go_wp2
  all_goals go_ret
  all_goals exact ⟨rfl, below_drewN (hb1.trans hb2) _⟩

set_option maxHeartbeats 400000 in
theorem agr_B_n (s : ByteArray) (w : World) (h : s.size ≤ 1048576) (he : ((s.size : Int) == 0) = false) (h0 : 0 < s.size) (hd : (s[0].toNat : Int) < 48 ∨ 57 < (s[0].toNat : Int))
    (hc1 : Calls Tryf.prog 6 #[.string s] w fun e w' => Res (none) e ∧ Below w.heap.size w w')
    (hc2 : ∀ w1, Below w.heap.size w w1 → Calls Tryf.prog 6 #[.string (⟨#[45]⟩ ++ s)] w1 fun e w' => Res (none) e ∧ Below w.heap.size w1 w')
    (hc7 : ∀ w, Calls Tryf.prog 7 #[.string s] w fun e w' => e = .returned (.tuple #[.int .i64 0, .bool false]) ∧ ∃ n, w' = w.drewN n) :
    Calls Tryf.prog 3 #[.string s] w fun e w' => e = .returned (.bool true) ∧ Below w.heap.size w w' := by
  rcases hd with hd | hd
  all_goals
    go_enter Tryf.func3, Tryf.ntmps3
    go_wp2_with (go_at_call 5; refine (bytes5 s _ h).mono ?_; rintro e w' ⟨rfl, rfl⟩)
    refine hc1.mono ?_
    rintro e w1 ⟨⟨a1, rfl⟩, hb1⟩
    go_wp2_with fail
    refine (hc2 _ hb1).mono ?_
    rintro e w2 ⟨⟨a2, rfl⟩, hb2⟩
    go_wp2_with fail
    refine (hc7 _).mono ?_
    rintro e w3 ⟨rfl, n, rfl⟩
    go_wp2
    all_goals go_ret
    all_goals exact ⟨rfl, below_drewN (hb1.trans hb2) _⟩

set_option maxHeartbeats 400000 in
theorem agr_B_s (s : ByteArray) (v : Int) (w : World) (h : s.size ≤ 1048576) (he : ((s.size : Int) == 0) = false) (h0 : 0 < s.size) (hd : (s[0].toNat : Int) < 48 ∨ 57 < (s[0].toNat : Int))
    (hc1 : Calls Tryf.prog 6 #[.string s] w fun e w' => Res (some v) e ∧ Below w.heap.size w w')
    (hc2 : ∀ w1, Below w.heap.size w w1 → Calls Tryf.prog 6 #[.string (⟨#[45]⟩ ++ s)] w1 fun e w' => Res (none) e ∧ Below w.heap.size w1 w')
    (hc7 : ∀ w, Calls Tryf.prog 7 #[.string s] w fun e w' => e = .returned (.tuple #[.int .i64 v, .bool true]) ∧ ∃ n, w' = w.drewN n) :
    Calls Tryf.prog 3 #[.string s] w fun e w' => e = .returned (.bool true) ∧ Below w.heap.size w w' := by
  rcases hd with hd | hd
  all_goals
    go_enter Tryf.func3, Tryf.ntmps3
    go_wp2_with (go_at_call 5; refine (bytes5 s _ h).mono ?_; rintro e w' ⟨rfl, rfl⟩)
    refine hc1.mono ?_
    rintro e w1 ⟨rfl, hb1⟩
    go_wp2_with fail
    refine (hc2 _ hb1).mono ?_
    rintro e w2 ⟨⟨a2, rfl⟩, hb2⟩
    go_wp2_with fail
    refine (hc7 _).mono ?_
    rintro e w3 ⟨rfl, n, rfl⟩
    go_wp2
    all_goals go_ret
    all_goals exact ⟨rfl, below_drewN (hb1.trans hb2) _⟩

set_option maxHeartbeats 400000 in
theorem agr_C (s : ByteArray) (v : Int) (w : World) (h : s.size ≤ 1048576) (he : ((s.size : Int) == 0) = false) (h0 : 0 < s.size) (hd : 48 ≤ (s[0].toNat : Int)) (hd2 : (s[0].toNat : Int) ≤ 57) (hv : 0 ≤ v) (hv2 : v ≤ 9223372036854775807)
    (hc1 : Calls Tryf.prog 6 #[.string s] w fun e w' => Res (some v) e ∧ Below w.heap.size w w')
    (hc2 : ∀ w1, Below w.heap.size w w1 → Calls Tryf.prog 6 #[.string (⟨#[45]⟩ ++ s)] w1 fun e w' => Res (some (-v)) e ∧ Below w.heap.size w1 w')
    (hc7 : ∀ w, Calls Tryf.prog 7 #[.string s] w fun e w' => e = .returned (.tuple #[.int .i64 v, .bool true]) ∧ ∃ n, w' = w.drewN n) :
    Calls Tryf.prog 3 #[.string s] w fun e w' => e = .returned (.bool true) ∧ Below w.heap.size w w' := by
  go_enter Tryf.func3, Tryf.ntmps3
  go_wp2_with (go_at_call 5; refine (bytes5 s _ h).mono ?_; rintro e w' ⟨rfl, rfl⟩)
  refine hc1.mono ?_
  rintro e w1 ⟨rfl, hb1⟩
  go_wp2_with fail
  refine (hc2 _ hb1).mono ?_
  rintro e w2 ⟨rfl, hb2⟩
  go_wp2_with fail
  refine (hc7 _).mono ?_
  rintro e w3 ⟨rfl, n, rfl⟩
  go_wp2
  all_goals go_ret
  all_goals exact ⟨rfl, below_drewN (hb1.trans hb2) _⟩

set_option maxHeartbeats 400000 in
theorem agr_D1 (s : ByteArray) (w : World) (h : s.size ≤ 1048576) (he : ((s.size : Int) == 0) = false) (h0 : 0 < s.size) (hd : 48 ≤ (s[0].toNat : Int)) (hd2 : (s[0].toNat : Int) ≤ 57)
    (hc1 : Calls Tryf.prog 6 #[.string s] w fun e w' => Res (none) e ∧ Below w.heap.size w w')
    (hc2 : ∀ w1, Below w.heap.size w w1 → Calls Tryf.prog 6 #[.string (⟨#[45]⟩ ++ s)] w1 fun e w' => Res (some (-9223372036854775808)) e ∧ Below w.heap.size w1 w')
    (hc7 : ∀ w, Calls Tryf.prog 7 #[.string s] w fun e w' => e = .returned (.tuple #[.int .i64 0, .bool false]) ∧ ∃ n, w' = w.drewN n)
    (hc8 : ∀ w, Calls Tryf.prog 8 #[.string s] w fun e w' => e = .returned (.tuple #[.int .u64 9223372036854775808, .bool true, .bool false]) ∧ ∃ n, w' = w.drewN n) :
    Calls Tryf.prog 3 #[.string s] w fun e w' => e = .returned (.bool true) ∧ Below w.heap.size w w' := by
  go_enter Tryf.func3, Tryf.ntmps3
  go_wp2_with (go_at_call 5; refine (bytes5 s _ h).mono ?_; rintro e w' ⟨rfl, rfl⟩)
  refine hc1.mono ?_
  rintro e w1 ⟨⟨a1, rfl⟩, hb1⟩
  go_wp2_with fail
  refine (hc2 _ hb1).mono ?_
  rintro e w2 ⟨rfl, hb2⟩
  go_wp2_with fail
  refine (hc7 _).mono ?_
  rintro e w3 ⟨rfl, n, rfl⟩
  go_wp2_with fail
  refine (hc8 _).mono ?_
  rintro e w4 ⟨rfl, n4, rfl⟩
  go_wp2
  all_goals go_ret
  all_goals exact ⟨rfl, below_drewN (hb1.trans hb2) _⟩

set_option maxHeartbeats 400000 in
theorem agr_D2 (s : ByteArray) (w : World) (h : s.size ≤ 1048576) (he : ((s.size : Int) == 0) = false) (h0 : 0 < s.size) (hd : 48 ≤ (s[0].toNat : Int)) (hd2 : (s[0].toNat : Int) ≤ 57)
    (hc1 : Calls Tryf.prog 6 #[.string s] w fun e w' => Res (none) e ∧ Below w.heap.size w w')
    (hc2 : ∀ w1, Below w.heap.size w w1 → Calls Tryf.prog 6 #[.string (⟨#[45]⟩ ++ s)] w1 fun e w' => Res (none) e ∧ Below w.heap.size w1 w')
    (hc7 : ∀ w, Calls Tryf.prog 7 #[.string s] w fun e w' => e = .returned (.tuple #[.int .i64 0, .bool false]) ∧ ∃ n, w' = w.drewN n)
    (hc8 : ∀ w, Calls Tryf.prog 8 #[.string s] w fun e w' => e = .returned (.tuple #[.int .u64 0, .bool false, .bool false]) ∧ ∃ n, w' = w.drewN n) :
    Calls Tryf.prog 3 #[.string s] w fun e w' => e = .returned (.bool true) ∧ Below w.heap.size w w' := by
  go_enter Tryf.func3, Tryf.ntmps3
  go_wp2_with (go_at_call 5; refine (bytes5 s _ h).mono ?_; rintro e w' ⟨rfl, rfl⟩)
  refine hc1.mono ?_
  rintro e w1 ⟨⟨a1, rfl⟩, hb1⟩
  go_wp2_with fail
  refine (hc2 _ hb1).mono ?_
  rintro e w2 ⟨⟨a2, rfl⟩, hb2⟩
  go_wp2_with fail
  refine (hc7 _).mono ?_
  rintro e w3 ⟨rfl, n, rfl⟩
  go_wp2_with fail
  refine (hc8 _).mono ?_
  rintro e w4 ⟨rfl, n4, rfl⟩
  go_wp2
  all_goals go_ret
  all_goals exact ⟨rfl, below_drewN (hb1.trans hb2) _⟩

set_option maxHeartbeats 400000 in
theorem agr_D3 (s : ByteArray) (w : World) (h : s.size ≤ 1048576) (he : ((s.size : Int) == 0) = false) (h0 : 0 < s.size) (hd : 48 ≤ (s[0].toNat : Int)) (hd2 : (s[0].toNat : Int) ≤ 57)
    (hc1 : Calls Tryf.prog 6 #[.string s] w fun e w' => Res (none) e ∧ Below w.heap.size w w')
    (hc2 : ∀ w1, Below w.heap.size w w1 → Calls Tryf.prog 6 #[.string (⟨#[45]⟩ ++ s)] w1 fun e w' => Res (none) e ∧ Below w.heap.size w1 w')
    (hc7 : ∀ w, Calls Tryf.prog 7 #[.string s] w fun e w' => e = .returned (.tuple #[.int .i64 0, .bool false]) ∧ ∃ n, w' = w.drewN n)
    (hc8 : ∀ w, Calls Tryf.prog 8 #[.string s] w fun e w' => e = .returned (.tuple #[.int .u64 0, .bool true, .bool true]) ∧ ∃ n, w' = w.drewN n) :
    Calls Tryf.prog 3 #[.string s] w fun e w' => e = .returned (.bool true) ∧ Below w.heap.size w w' := by
  go_enter Tryf.func3, Tryf.ntmps3
  go_wp2_with (go_at_call 5; refine (bytes5 s _ h).mono ?_; rintro e w' ⟨rfl, rfl⟩)
  refine hc1.mono ?_
  rintro e w1 ⟨⟨a1, rfl⟩, hb1⟩
  go_wp2_with fail
  refine (hc2 _ hb1).mono ?_
  rintro e w2 ⟨⟨a2, rfl⟩, hb2⟩
  go_wp2_with fail
  refine (hc7 _).mono ?_
  rintro e w3 ⟨rfl, n, rfl⟩
  go_wp2_with fail
  refine (hc8 _).mono ?_
  rintro e w4 ⟨rfl, n4, rfl⟩
  go_wp2
  all_goals go_ret
  all_goals exact ⟨rfl, below_drewN (hb1.trans hb2) _⟩

end Go.Proofs.Qxb6618510aFmt
