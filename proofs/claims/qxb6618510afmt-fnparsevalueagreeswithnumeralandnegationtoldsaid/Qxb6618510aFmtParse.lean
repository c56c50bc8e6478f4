/-
  parseInteger out of its callees' contracts; ParseInt's contract comes in as a hypothesis.
-/
import Derived.Test.Qxb6618510aFmtShort
import Derived.Test.Qxb6618510aFmtErrorf
namespace Go.Proofs.Qxb6618510aFmt
open Go.RowKit Pl Go.Extern.Stop Go.Stop Go.Extern

theorem ext_list (s : ByteArray) (a b : Nat) : (s.extract a b).data.toList = (s.data.toList.drop a).take (b - a) := by
  rw [ByteArray.data_extract, Array.toList_extract, List.extract_eq_take_drop]
theorem ext_tail (s : ByteArray) : (s.extract 1 s.size).data.toList = s.data.toList.tail := by
  have h2 : s.data.toList.length = s.size := Array.length_toList
  rw [ext_list, List.take_of_length_le (by rw [List.length_drop]; omega), List.drop_one]
theorem head_yes (s : ByteArray) (h : s.data.toList.head? = some 45) : ((s.extract 0 1).toList == [45]) = true ∧ 0 < s.size := by
  have h2 : s.data.toList.length = s.size := Array.length_toList
  rw [ByteArray.toList_eq, ext_list]
  cases e : s.data.toList with
  | nil => rw [e] at h; cases h
  | cons c r =>
    rw [e] at h h2
    simp only [List.head?_cons, Option.some.injEq] at h
    subst h
    refine ⟨by simp, by simp at h2; omega⟩
theorem head_no (s : ByteArray) (h : s.data.toList.head? ≠ some 45) : ((s.extract 0 1).toList == [45]) = false := by
  rw [ByteArray.toList_eq, ext_list]
  cases e : s.data.toList with
  | nil => rfl
  | cons c r =>
    rw [e] at h
    simp only [List.head?_cons, ne_eq, Option.some.injEq] at h
    simp [h]
theorem cut_no (s : ByteArray) (w : World) (h : s.data.toList.head? ≠ some 45) :
    Calls Tryf.prog 11 #[.string s, .string ⟨#[45]⟩] w fun e w' => e = .returned (.tuple #[.string s, .bool false]) ∧ w' = w := by
  have h1 := head_no s h
  clear h
  go_enter Tryf.func11, Tryf.ntmps11
  go_wp2
  all_goals go_ret2
  all_goals exact ⟨rfl, rfl⟩
theorem cut_yes (s : ByteArray) (w : World) (h : s.data.toList.head? = some 45) :
    Calls Tryf.prog 11 #[.string s, .string ⟨#[45]⟩] w fun e w' => e = .returned (.tuple #[.string (s.extract 1 s.size), .bool true]) ∧ w' = w := by
  obtain ⟨h1, h2⟩ := head_yes s h
  clear h
  go_enter Tryf.func11, Tryf.ntmps11
  go_wp2
  all_goals go_ret2
  all_goals exact ⟨rfl, rfl⟩

theorem int_short (what s m : ByteArray) (ng : Bool) (w : World)
    (hcut : ∀ w, Calls Tryf.prog 11 #[.string s, .string ⟨#[45]⟩] w fun e w' => e = .returned (.tuple #[.string m, .bool ng]) ∧ w' = w)
    (h0 : 0 < m.size) (h18 : m.size ≤ 18) (ha : allD m.data.toList = true) :
    Calls Tryf.prog 10 #[.string what, .string s] w fun e w' => e = .returned (.tuple #[.int .i64 (if ng = true then -(dv 0 m.data.toList : Int) else dv 0 m.data.toList), .nilIface]) ∧ w' = w := by
  have hs := fun w => short_yes m w h0 h18 ha
  have hb := dv_short _ ha (by simpa using h18)
  generalize dv 0 m.data.toList = x at hs hb ⊢
  clear ha
  cases ng
  all_goals
    go_enter Tryf.func10, Tryf.ntmps10
    go_wp2_with (first | (go_at_call 11; refine (hcut _).mono ?_; rintro e w' ⟨rfl, rfl⟩) | (go_at_call 12; refine (hs _).mono ?_; rintro e w' ⟨rfl, rfl⟩))
    go_ret2
    exact ⟨rfl, rfl⟩

/-- ParseInt takes it, and a digit stands first. -/
theorem int_ok (what s m : ByteArray) (ng : Bool) (v : Int) (w : World)
    (hcut : ∀ w, Calls Tryf.prog 11 #[.string s, .string ⟨#[45]⟩] w fun e w' => e = .returned (.tuple #[.string m, .bool ng]) ∧ w' = w)
    (hsh : ∀ w, Calls Tryf.prog 12 #[.string m] w fun e w' => e = .returned (.tuple #[.int .i64 0, .bool false]) ∧ w' = w)
    (hpi : ∀ w, Calls Tryf.prog 13 #[.string s, .int .i64 10, .int .i64 64] w fun e w' => e = .returned (.tuple #[.int .i64 v, .nilIface]) ∧ Below w.heap.size w w')
    (hsw : ∀ w, Calls Tryf.prog 14 #[.string m] w fun e w' => e = .returned (.bool true) ∧ w' = w) :
    Calls Tryf.prog 10 #[.string what, .string s] w fun e w' => e = .returned (.tuple #[.int .i64 v, .nilIface]) ∧ Below w.heap.size w w' := by
  go_enter Tryf.func10, Tryf.ntmps10
  go_wp2_with (first | (go_at_call 11; refine (hcut _).mono ?_; rintro e w' ⟨rfl, rfl⟩) | (go_at_call 12; refine (hsh _).mono ?_; rintro e w' ⟨rfl, rfl⟩) | (go_at_call 13; refine (hpi _).mono ?_; rintro e w1 ⟨rfl, hb1⟩) | (go_at_call 14; refine (hsw _).mono ?_; rintro e w' ⟨rfl, rfl⟩))
  go_ret2
  exact ⟨rfl, by assumption⟩

/-- ParseInt takes it, but no digit stands first. -/
theorem int_sign (F : Interp) (what s m : ByteArray) (ng : Bool) (v : Int) (w : World) (hF : F.answers w.tape)
    (hcut : ∀ w, Calls Tryf.prog 11 #[.string s, .string ⟨#[45]⟩] w fun e w' => e = .returned (.tuple #[.string m, .bool ng]) ∧ w' = w)
    (hsh : ∀ w, Calls Tryf.prog 12 #[.string m] w fun e w' => e = .returned (.tuple #[.int .i64 0, .bool false]) ∧ w' = w)
    (hpi : ∀ w, Calls Tryf.prog 13 #[.string s, .int .i64 10, .int .i64 64] w fun e w' => e = .returned (.tuple #[.int .i64 v, .nilIface]) ∧ Below w.heap.size w w')
    (hsw : ∀ w, Calls Tryf.prog 14 #[.string m] w fun e w' => e = .returned (.bool false) ∧ w' = w) :
    Calls Tryf.prog 10 #[.string what, .string s] w fun e w' => (∃ a, e = .returned (.tuple #[.int .i64 0, .iface 51 (.pointer (some a))])) ∧ Below w.heap.size w w' := by
  go_enter Tryf.func10, Tryf.ntmps10
  go_wp2_with (first | (go_at_call 11; refine (hcut _).mono ?_; rintro e w' ⟨rfl, rfl⟩) | (go_at_call 12; refine (hsh _).mono ?_; rintro e w' ⟨rfl, rfl⟩) | (go_at_call 13; refine (hpi _).mono ?_; rintro e w1 ⟨rfl, hb1⟩) | (go_at_call 14; refine (hsw _).mono ?_; rintro e w' ⟨rfl, rfl⟩))
  refine (errorf_any F what s (-9223372036854775808) 9223372036854775807 _ _ ?_ ?_ ?_ ?_ ?_).mono ?_
  · exact hb1.tape ▸ hF
  · go_simp
  · go_simp
  · go_simp
  · go_simp
  rintro e w2 ⟨rfl, hb2⟩
  go_wp2
  go_ret2
  exact ⟨⟨_, rfl⟩, (hb1.alloc hb1.size _).trans (hb2.mono (by simp; exact Nat.le_succ_of_le hb1.size))⟩

/-- ParseInt refuses it. -/
theorem int_err (F : Interp) (what s m : ByteArray) (ng : Bool) (w : World) (hF : F.answers w.tape)
    (hcut : ∀ w, Calls Tryf.prog 11 #[.string s, .string ⟨#[45]⟩] w fun e w' => e = .returned (.tuple #[.string m, .bool ng]) ∧ w' = w)
    (hsh : ∀ w, Calls Tryf.prog 12 #[.string m] w fun e w' => e = .returned (.tuple #[.int .i64 0, .bool false]) ∧ w' = w)
    (hpi : Calls Tryf.prog 13 #[.string s, .int .i64 10, .int .i64 64] w fun e w' => (∃ v t p, e = .returned (.tuple #[.int .i64 v, .iface t p])) ∧ Below w.heap.size w w') :
    Calls Tryf.prog 10 #[.string what, .string s] w fun e w' => (∃ a, e = .returned (.tuple #[.int .i64 0, .iface 51 (.pointer (some a))])) ∧ Below w.heap.size w w' := by
  go_enter Tryf.func10, Tryf.ntmps10
  go_wp2_with (first | (go_at_call 11; refine (hcut _).mono ?_; rintro e w' ⟨rfl, rfl⟩) | (go_at_call 12; refine (hsh _).mono ?_; rintro e w' ⟨rfl, rfl⟩) | (go_at_call 13; refine hpi.mono ?_; rintro e w1 ⟨⟨v, t, p, rfl⟩, hb1⟩))
  refine (errorf_any F what s (-9223372036854775808) 9223372036854775807 _ _ ?_ ?_ ?_ ?_ ?_).mono ?_
  · exact hb1.tape ▸ hF
  · go_simp
  · go_simp
  · go_simp
  · go_simp
  rintro e w2 ⟨rfl, hb2⟩
  go_wp2
  go_ret2
  exact ⟨⟨_, rfl⟩, (hb1.alloc hb1.size _).trans (hb2.mono (by simp; exact Nat.le_succ_of_le hb1.size))⟩
end Go.Proofs.Qxb6618510aFmt
