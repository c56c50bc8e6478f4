/-
  parseShort and startsWithDigit: what each call answers.
-/
import Derived.Test.Qxb6618510aFmtPlain
import Derived.Test.Qxb6618510aFmtRows
import Derived.WalkKit
import Derived.WalkSpells
import Derived.WalkLawsBesides
import Derived.RowKitTokens
import Derived.Deep.LoopGhost
namespace Go.Proofs.Qxb6618510aFmt
open Go.RowKit Pl
def intOf : Value → Int | .int _ q => q | _ => 0

theorem take_snoc (s : ByteArray) (k : Nat) (h : k < s.size) : s.data.toList.take (k + 1) = s.data.toList.take k ++ [s[k]] := by
  rw [List.take_succ_eq_append_getElem (by simpa using h)]; rfl
theorem take_all (s : ByteArray) (k : Nat) (h : s.size ≤ k) : s.data.toList.take k = s.data.toList :=
  List.take_of_length_le (by simpa using h)
theorem ne_empty (s : ByteArray) (h : 0 < s.size) : s.toList.isEmpty = false := by
  rw [ByteArray.toList_eq]
  cases e : s.data.toList with
  | nil =>
    have h1 : s.data.toList.length = 0 := by rw [e]; rfl
    have h2 : s.data.toList.length = s.size := Array.length_toList
    omega
  | cons c r => rfl
theorem allD_take (l : List UInt8) (k : Nat) (h : allD l = true) : allD (l.take k) = true := by
  unfold allD at *
  rw [List.all_eq_true] at *
  exact fun x hx => h x (List.mem_of_mem_take hx)
theorem allD_at (s : ByteArray) (k : Nat) (h : k < s.size) (ha : allD s.data.toList = true) : 48 ≤ s[k].toNat ∧ s[k].toNat ≤ 57 := by
  unfold allD at ha
  rw [List.all_eq_true] at ha
  refine isD_true.1 (ha _ ?_)
  have : s[k] = s.data.toList[k]'(by simpa using h) := rfl
  rw [this]; exact List.getElem_mem _

set_option maxHeartbeats 400000 in
theorem short_yes (s : ByteArray) (w : World) (h0 : 0 < s.size) (h18 : s.size ≤ 18) (ha : allD s.data.toList = true) :
    Calls Tryf.prog 12 #[.string s] w fun e w' => e = .returned (.tuple #[.int .i64 (dv 0 s.data.toList), .bool true]) ∧ w' = w := by
  have he := ne_empty s h0
  have hl : decide (18 < (s.size : Int)) = false := by simp; omega
  have HA : Hid (allD s.data.toList = true) := ha
  clear ha
  go_enter Tryf.func12, Tryf.ntmps12
  go_wp2
  go_loop [4, 16] (fun n i => ∃ k : Nat, k ≤ s.size ∧ i = .int .i64 k ∧ n = .int .i64 (dv 0 (s.data.toList.take k))) (fun _ i => s.size - (intOf i).toNat)
  case atStart => exact ⟨0, Nat.zero_le _, rfl, rfl⟩
  case round =>
    obtain ⟨k, hk, rfl, rfl⟩ := hrel
    by_cases hlt : k < s.size
    · obtain ⟨hd1, hd2⟩ := allD_at s k hlt HA.out
      have HS : Hid (dv 0 (s.data.toList.take (k + 1)) = dv 0 (s.data.toList.take k) * 10 + (s[k].toNat - 48)) := by
        rw [take_snoc s k hlt]; exact dv_snoc _ _ _
      have hb : dv 0 (s.data.toList.take k) ≤ 100000000000000000 := by
        have h1 := dv_short (s.data.toList.take (k + 1)) (allD_take _ _ HA.out) (by simp; omega)
        have h2 := HS.out
        omega
      go_wp2
      go_round
      case rel => exact ⟨k + 1, by omega, by go_num, by rw [HS.out]; go_num⟩
      case measure => simp [intOf]; omega
    · go_wp2
      go_ret2
      exact ⟨by rw [take_all s k (by omega)]; rfl, rfl⟩

/-- A byte that is no digit, first from the left. -/
theorem first_bad (s : ByteArray) (ha : allD s.data.toList = false) : ∃ j, ∃ h : j < s.size, ¬ (48 ≤ s[j].toNat ∧ s[j].toNat ≤ 57) := by
  unfold allD at ha
  rw [List.all_eq_false] at ha
  obtain ⟨x, hx, hn⟩ := ha
  obtain ⟨j, hj, rfl⟩ := List.getElem_of_mem hx
  refine ⟨j, by simpa using hj, ?_⟩
  intro hc
  exact hn (isD_true.2 hc)

set_option maxHeartbeats 400000 in
theorem short_empty (s : ByteArray) (w : World) (h0 : s.size = 0) :
    Calls Tryf.prog 12 #[.string s] w fun e w' => e = .returned (.tuple #[.int .i64 0, .bool false]) ∧ w' = w := by
  have he : s.toList.isEmpty = true := by
    rw [ByteArray.toList_eq]
    have h2 : s.data.toList.length = s.size := Array.length_toList
    cases e : s.data.toList with
    | nil => rfl
    | cons c r => rw [e] at h2; simp at h2; omega
  clear h0
  go_enter Tryf.func12, Tryf.ntmps12
  go_wp2
  go_ret2
  exact ⟨rfl, rfl⟩

set_option maxHeartbeats 400000 in
theorem short_long (s : ByteArray) (w : World) (h0 : 18 < s.size) :
    Calls Tryf.prog 12 #[.string s] w fun e w' => e = .returned (.tuple #[.int .i64 0, .bool false]) ∧ w' = w := by
  have he := ne_empty s (by omega)
  have hl : decide (18 < (s.size : Int)) = true := by simp; omega
  go_enter Tryf.func12, Tryf.ntmps12
  go_wp2
  go_ret2
  exact ⟨rfl, rfl⟩

set_option maxHeartbeats 400000 in
theorem short_bad (s : ByteArray) (w : World) (h0 : 0 < s.size) (h18 : s.size ≤ 18) (ha : allD s.data.toList = false) :
    Calls Tryf.prog 12 #[.string s] w fun e w' => e = .returned (.tuple #[.int .i64 0, .bool false]) ∧ w' = w := by
  have he := ne_empty s h0
  have hl : decide (18 < (s.size : Int)) = false := by simp; omega
  obtain ⟨j, hj, hbad⟩ := first_bad s ha
  have HB : Hid (¬ (48 ≤ s[j].toNat ∧ s[j].toNat ≤ 57)) := hbad
  clear hbad ha
  go_enter Tryf.func12, Tryf.ntmps12
  go_wp2
  go_loop [4, 16] (fun n i => ∃ k : Nat, ∃ x : Int, k ≤ j ∧ i = .int .i64 k ∧ n = .int .i64 x) (fun _ i => s.size - (intOf i).toNat)
  case atStart => exact ⟨0, 0, Nat.zero_le _, rfl, rfl⟩
  case round =>
    obtain ⟨k, x, hk, rfl, rfl⟩ := hrel
    have hlt : k < s.size := by omega
    have hc := s[k].toNat_lt
    go_wp2
    · go_ret2
      exact ⟨rfl, rfl⟩
    · have hkj : k ≠ j := by
        rintro rfl
        have := HB.out
        omega
      go_round
      case rel => exact ⟨k + 1, _, by omega, by go_num, rfl⟩
      case measure => simp [intOf]; omega

theorem ret_bool {a b : Bool} (h : a = b) : Ending.returned (.bool a) = .returned (.bool b) := by rw [h]
/-- startsWithDigit. -/
theorem swd_empty (s : ByteArray) (w : World) (h0 : s.size = 0) :
    Calls Tryf.prog 14 #[.string s] w fun e w' => e = .returned (.bool false) ∧ w' = w := by
  have he : s.toList.isEmpty = true := by
    rw [ByteArray.toList_eq]
    have h2 : s.data.toList.length = s.size := Array.length_toList
    cases e : s.data.toList with
    | nil => rfl
    | cons c r => rw [e] at h2; simp at h2; omega
  clear h0
  go_enter Tryf.func14, Tryf.ntmps14
  go_wp2
  go_ret
  exact ⟨rfl, rfl⟩
theorem swd_any (s : ByteArray) (w : World) (h0 : 0 < s.size) :
    Calls Tryf.prog 14 #[.string s] w fun e w' => e = .returned (.bool (isD s[0])) ∧ w' = w := by
  have he := ne_empty s h0
  go_enter Tryf.func14, Tryf.ntmps14
  go_wp2
  · rename_i hx
    go_ret
    exact ⟨ret_bool (by rw [Bool.eq_iff_iff, isD_true, decide_eq_true_eq]; omega), rfl⟩
  · rename_i hx
    go_ret
    exact ⟨ret_bool (by symm; rw [isD_false]; omega), rfl⟩
end Go.Proofs.Qxb6618510aFmt
