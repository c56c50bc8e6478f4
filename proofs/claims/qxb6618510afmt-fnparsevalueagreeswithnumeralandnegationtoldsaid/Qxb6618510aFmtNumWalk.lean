/-
  zzNumeral and zzExpectValue: what each call answers.
-/
import Derived.Test.Qxb6618510aFmtNum
import Derived.Test.Qxb6618510aFmtShort
import Derived.BigQuiet
import Derived.Deep.QuietTactic
namespace Go.Proofs.Qxb6618510aFmt
open Go.RowKit Pl

set_option maxHeartbeats 400000 in
theorem num_empty (s : ByteArray) (w : World) (h0 : s.size = 0) :
    Calls Tryf.prog 8 #[.string s] w fun e w' => e = .returned (.tuple #[.int .u64 0, .bool false, .bool false]) ∧ w' = w := by
  have he : ((s.size : Int) == 0) = true := by rw [beq_iff_eq]; omega
  go_enter Tryf.func8, Tryf.ntmps8
  go_wp2
  go_ret3
  exact ⟨rfl, rfl⟩

set_option maxHeartbeats 400000 in
theorem num_bad (s : ByteArray) (w : World) (h0 : 0 < s.size) (ha : allD s.data.toList = false) (hmax : s.size ≤ 281474976710656) :
    Calls Tryf.prog 8 #[.string s] w fun e w' => e = .returned (.tuple #[.int .u64 0, .bool false, .bool false]) ∧ w' = w := by
  have he : ((s.size : Int) == 0) = false := by rw [beq_eq_false_iff_ne]; omega
  obtain ⟨j, hj, hbad⟩ := first_bad s ha
  have HB : Hid (¬ (48 ≤ s[j].toNat ∧ s[j].toNat ≤ 57)) := hbad
  clear hbad ha
  go_enter Tryf.func8, Tryf.ntmps8
  go_wp2
  go_loop [5] (fun i => ∃ k : Nat, k ≤ j ∧ i = .int .i64 k) (fun i => s.size - (intOf i).toNat)
  case atStart => exact ⟨0, Nat.zero_le _, rfl⟩
  case round =>
    obtain ⟨k, hk, rfl⟩ := hrel
    have hlt : k < s.size := by omega
    have hc := s[k].toNat_lt
    by_cases hin : 48 ≤ s[k].toNat ∧ s[k].toNat ≤ 57
    · have hkj : k ≠ j := by
        rintro rfl
        exact HB.out hin
      obtain ⟨h1, h2⟩ := hin
      go_wp2
      go_round
      case rel => exact ⟨k + 1, by omega, by go_num⟩
      case measure => simp [intOf]; omega
    · go_wp2
      · go_ret3
        exact ⟨rfl, rfl⟩
      · go_ret3
        exact ⟨rfl, rfl⟩

/-- The number of the leading zeros: the place of the first that is none. -/
theorem drop_step (s : ByteArray) (z : Nat) (h : z < s.size) (h48 : s[z].toNat = 48) : dv 0 (s.data.toList.drop (z + 1)) = dv 0 (s.data.toList.drop z) := by
  have hl : z < s.data.toList.length := by simpa using h
  rw [List.drop_eq_getElem_cons hl]
  have e : s.data.toList[z] = s[z] := rfl
  have e2 : s[z] = 48 := UInt8.toNat_inj.1 (h48.trans rfl)
  rw [e, e2, dv_zero]

theorem u64w (x : Int) (h0 : 0 ≤ x) (h1 : x < 18446744073709551616) : IntKind.u64.wrap x = x := by
  simp [IntKind.wrap, IntKind.signed, IntKind.bits]
  omega
theorem step4 (r : ByteArray) (k : Nat) (h : k < r.size) (ha : allD r.data.toList = true) (hle : dv 0 r.data.toList ≤ 9223372036854775808) :
    IntKind.u64.wrap (IntKind.u64.wrap ((dv 0 (r.data.toList.take k) : Int) * 10) + ((r[k].toNat : Int) - 48) % 256) = (dv 0 (r.data.toList.take (k + 1)) : Int) := by
  obtain ⟨h1, h2⟩ := allD_at r k h ha
  have hs : dv 0 (r.data.toList.take (k + 1)) = dv 0 (r.data.toList.take k) * 10 + (r[k].toNat - 48) := by
    rw [take_snoc r k h]; exact dv_snoc _ _ _
  have hb : dv 0 (r.data.toList.take (k + 1)) ≤ dv 0 r.data.toList := by
    have h3 := dv_append (r.data.toList.take (k + 1)) (r.data.toList.drop (k + 1)) 0
    rw [List.take_append_drop] at h3
    rw [h3]; exact dv_ge _ _
  rw [hs] at hb ⊢
  rw [u64w ((dv 0 (r.data.toList.take k) : Int) * 10) (by omega) (by omega), u64w _ (by omega) (by omega)]
  omega

def pre (r : ByteArray) (k : Nat) : Nat := dv 0 (r.data.toList.take k)
theorem pre_zero (r : ByteArray) : pre r 0 = 0 := by unfold pre; rw [List.take_zero, dv_nil]
def Alike63 (r : ByteArray) (k : Nat) : Prop := r.data.toList.take k = two63.take k
theorem step4' (r : ByteArray) (k : Nat) (h : k < r.size) (ha : Hid (allD r.data.toList = true)) (hle : Hid (dv 0 r.data.toList ≤ 9223372036854775808)) :
    Hid (Value.int .u64 (IntKind.u64.wrap (IntKind.u64.wrap ((pre r k : Int) * 10) + ((r[k].toNat : Int) - 48) % 256)) = Value.int .u64 (pre r (k + 1) : Int)) :=
  congrArg (Value.int .u64) (step4 r k h ha.out hle.out)

def numVal (p : Nat × Bool × Bool) : Value := .tuple #[.int .u64 (p.1 : Int), .bool p.2.1, .bool p.2.2]

theorem ext_size (s : ByteArray) (z : Nat) : (s.extract z s.size).data.toList = s.data.toList.drop z := by
  have hl : s.data.toList.length = s.size := Array.length_toList
  rw [ByteArray.data_extract, Array.toList_extract, List.extract_eq_take_drop, List.take_of_length_le (by rw [List.length_drop]; omega)]

theorem num_le (s : ByteArray) (h0 : 0 < s.size) (ha : allD s.data.toList = true) (hle : dv 0 s.data.toList ≤ 9223372036854775808) : numVal (numeral s.data.toList) = .tuple #[.int .u64 (dv 0 s.data.toList : Int), .bool true, .bool false] := by
  have hl : s.data.toList.length = s.size := Array.length_toList
  unfold numeral
  rw [if_neg (by rw [ha]; intro e; rcases e with e | e; · rw [e] at hl; simp at hl; omega
                 · cases e), if_neg (by omega)]
  rfl
theorem num_gt (s : ByteArray) (h0 : 0 < s.size) (ha : allD s.data.toList = true) (hgt : 9223372036854775808 < dv 0 s.data.toList) : numVal (numeral s.data.toList) = .tuple #[.int .u64 0, .bool true, .bool true] := by
  have hl : s.data.toList.length = s.size := Array.length_toList
  unfold numeral
  rw [if_neg (by rw [ha]; intro e; rcases e with e | e; · rw [e] at hl; simp at hl; omega
                 · cases e), if_pos hgt]
  rfl

def b63 (k : Nat) : Int := ((two63.getD k 0).toNat : Int)
theorem idx63 (k : Nat) (h : k < 19) : ∀ W : World, (Instr.index 9 (.string ⟨#[57, 50, 50, 51, 51, 55, 50, 48, 51, 54, 56, 53, 52, 55, 55, 53, 56, 48, 56]⟩) (.int .i64 (k : Int))).run Tryf.prog W = .ok (.int .u8 (b63 k)) W := by
  intro W
  have h19 : (⟨#[57, 50, 50, 51, 51, 55, 50, 48, 51, 54, 56, 53, 52, 55, 55, 53, 56, 48, 56]⟩ : ByteArray).size = 19 := rfl
  have hk : 0 ≤ (k : Int) ∧ (k : Int) < ((⟨#[57, 50, 50, 51, 51, 55, 50, 48, 51, 54, 56, 53, 52, 55, 55, 53, 56, 48, 56]⟩ : ByteArray).size : Int) := by
    rw [h19]; omega
  rw [run_index_string W 9 _ _ _ Tryf.underlying9, dif_pos hk]
  unfold b63
  congr 3
  simp only [Int.toNat_natCast]
  have hl : k < two63.length := h
  rw [List.getD_eq_getElem?_getD, List.getElem?_eq_getElem hl]
  rfl

theorem list_get (r : ByteArray) (k : Nat) (h : k < r.size) (hl : k < r.data.toList.length) : r.data.toList[k] = r[k]'h := rfl
theorem b63_get (k : Nat) (h : k < 19) : b63 k = ((two63[k]'h).toNat : Int) := by
  unfold b63
  rw [List.getD_eq_getElem?_getD, List.getElem?_eq_getElem (show k < two63.length from h)]; rfl
theorem alike_step (r : ByteArray) (k : Nat) (h : k < 19) (hk : k < r.size) (ha : Alike63 r k) (e : (r[k].toNat : Int) = b63 k) : Alike63 r (k + 1) := by
  unfold Alike63 at *
  have hl : k < r.data.toList.length := by simpa using hk
  rw [List.take_succ_eq_append_getElem hl, List.take_succ_eq_append_getElem (show k < two63.length from h), ha, list_get r k hk hl]
  rw [b63_get k h] at e
  have e2 : r[k] = two63[k]'h := UInt8.toNat_inj.1 (by omega)
  rw [e2]; rfl
theorem alike_over (r : ByteArray) (hs : r.size = 19) (k : Nat) (h : k < 19) (hk : k < r.size) (ha : Alike63 r k) (e : b63 k < (r[k].toNat : Int)) : 9223372036854775808 < dv 0 r.data.toList := by
  have hl : r.data.toList.length = 19 := by rw [← hs]; exact Array.length_toList
  rw [b63_get k h] at e
  exact over63 r.data.toList hl k h ha (by rw [list_get r k hk]; omega)
theorem alike_under (r : ByteArray) (hs : r.size = 19) (hd : allD r.data.toList = true) (k : Nat) (h : k < 19) (hk : k < r.size) (ha : Alike63 r k) (e : (r[k].toNat : Int) < b63 k) : dv 0 r.data.toList ≤ 9223372036854775808 := by
  have hl : r.data.toList.length = 19 := by rw [← hs]; exact Array.length_toList
  rw [b63_get k h] at e
  exact under63 r.data.toList hl hd k h ha (by rw [list_get r k hk]; omega)
theorem alike_same (r : ByteArray) (hs : r.size = 19) (k : Nat) (h : k = 19) (ha : Alike63 r k) : dv 0 r.data.toList ≤ 9223372036854775808 := by
  have hl : r.data.toList.length = 19 := by rw [← hs]; exact Array.length_toList
  subst h
  exact same63 r.data.toList hl ha

theorem drewN_ex (w : World) (a b c : Nat) : ∃ m, ((w.drewN a).drewN b).drewN c = w.drewN m := ⟨a + b + c, by simp [World.drewN, Nat.add_assoc]⟩

theorem ret_num {a b : Nat} {v : Value} (h : a = b) (hv : v = .tuple #[.int .u64 (b : Int), .bool true, .bool false]) : Ending.returned (.tuple #[.int .u64 (a : Int), .bool true, .bool false]) = .returned v := by rw [hv, h]

set_option maxHeartbeats 1000000 in
theorem num_ok (s : ByteArray) (w : World) (h0 : 0 < s.size) (ha : allD s.data.toList = true) (hmax : s.size ≤ 281474976710656) :
    Calls Tryf.prog 8 #[.string s] w fun e w' => e = .returned (numVal (numeral s.data.toList)) ∧ ∃ n, w' = w.drewN n := by
  have he : ((s.size : Int) == 0) = false := by rw [beq_eq_false_iff_ne]; omega
  have HA : Hid (allD s.data.toList = true) := ha
  clear ha
  go_enter Tryf.func8, Tryf.ntmps8
  go_wp2
  go_loop [5] (fun i => ∃ k : Nat, k ≤ s.size ∧ i = .int .i64 k) (fun i => s.size - (intOf i).toNat)
  case atStart => exact ⟨0, Nat.zero_le _, rfl⟩
  case round =>
    obtain ⟨k, hk, rfl⟩ := hrel
    by_cases hlt : k < s.size
    · obtain ⟨h1, h2⟩ := allD_at s k hlt HA.out
      go_wp2
      go_round
      case rel => exact ⟨k + 1, by omega, by go_num⟩
      case measure => simp [intOf]; omega
    · go_wp2
      go_loop [6] (fun i => ∃ z : Nat, z ≤ s.size ∧ i = .int .i64 z ∧ Hid (dv 0 (s.data.toList.drop z) = dv 0 s.data.toList)) (fun i => s.size - (intOf i).toNat)
      case atStart => exact ⟨0, Nat.zero_le _, rfl, rfl⟩
      case round =>
        obtain ⟨z, hz, rfl, HZ⟩ := hrel
        by_cases hlz : z < s.size ∧ s[z]!.toNat = 48
        · obtain ⟨hlz, h48⟩ := hlz
          rw [getElem!_pos s z hlz] at h48
          have hb : ((s[z].toNat : Int) == 48) = true := by rw [beq_iff_eq]; omega
          have HN : Hid (dv 0 (s.data.toList.drop (z + 1)) = dv 0 s.data.toList) := (drop_step s z hlz h48).trans HZ.out
          clear h48
          go_wp2
          go_round
          case rel => exact ⟨z + 1, by omega, by go_num, HN⟩
          case measure => simp [intOf]; omega
        · have hrl : (s.extract z s.size).data.toList = s.data.toList.drop z := ext_size s z
          have hra : Hid (allD (s.extract z s.size).data.toList = true) := by show allD _ = true; rw [hrl]; exact allD_drop _ _ HA.out
          have hrd : Hid (dv 0 (s.extract z s.size).data.toList = dv 0 s.data.toList) := by show dv 0 _ = _; rw [hrl]; exact HZ.out
          have hrs : (s.extract z s.size).size = s.size - z := by
            have h1 : (s.extract z s.size).data.toList.length = (s.extract z s.size).size := Array.length_toList
            rw [← h1, hrl, List.length_drop]; simp
          have HR : Hid ((s.extract z s.size).size = s.size - z) := hrs
          have HC : Hid (¬ (z < s.size ∧ s[z]!.toNat = 48)) := hlz
          clear hrl hlz hrs
          by_cases h19 : s.size - z < 19
          · have hq : ((((s.size - z : Nat) : Int)) == 19) = false := by rw [beq_eq_false_iff_ne]; omega
            have hle : Hid (dv 0 (s.extract z s.size).data.toList ≤ 9223372036854775808) := by
              have h1 := dv_short (s.extract z s.size).data.toList hra.out (by
                have h1 : (s.extract z s.size).data.toList.length = (s.extract z s.size).size := Array.length_toList
                rw [h1, HR.out]; omega)
              show _ ≤ _
              omega
            have HL : Hid (dv 0 s.data.toList ≤ 9223372036854775808) := by
              have h1 := hle.out
              have h2 := hrd.out
              show _ ≤ _
              omega
            by_cases hlz : z < s.size
            · have hb : ((s[z].toNat : Int) == 48) = false := by
                rw [beq_eq_false_iff_ne]
                intro e
                exact HC.out ⟨hlz, by rw [getElem!_pos s z hlz]; omega⟩
              go_wp2
              go_loop [9, 10] (fun m i => ∃ k : Nat, k ≤ s.size - z ∧ i = .int .i64 k ∧ m = .int .u64 (pre (s.extract z s.size) k : Int)) (fun _ i => s.size - (intOf i).toNat)
              case atStart => exact ⟨0, Nat.zero_le _, rfl, by rw [pre_zero]; rfl⟩
              case round =>
                obtain ⟨k, hk, rfl, rfl⟩ := hrel
                by_cases hlt : k < s.size - z
                · have hk2 : k < (s.extract z s.size).size := by rw [HR.out]; exact hlt
                  have HS := step4' (s.extract z s.size) k hk2 hra hle
                  go_wp2
                  go_round
                  case rel => exact ⟨k + 1, by omega, by go_num, by first | exact HS.out | exact (Value.int.inj HS.out).2⟩
                  case measure => simp [intOf]; omega
                · go_wp2
                  go_ret3
                  have hk2 : (s.extract z s.size).size ≤ k := by rw [HR.out]; omega
                  exact ⟨ret_num ((congrArg (dv 0) (take_all (s.extract z s.size) k hk2)).trans hrd.out : pre (s.extract z s.size) k = _) (num_le s h0 HA.out HL.out), 0, rfl⟩
            · go_wp2
              go_loop [9, 10] (fun m i => ∃ k : Nat, k ≤ s.size - z ∧ i = .int .i64 k ∧ m = .int .u64 (pre (s.extract z s.size) k : Int)) (fun _ i => s.size - (intOf i).toNat)
              case atStart => exact ⟨0, Nat.zero_le _, rfl, by rw [pre_zero]; rfl⟩
              case round =>
                obtain ⟨k, hk, rfl, rfl⟩ := hrel
                by_cases hlt : k < s.size - z
                · exact absurd hlt (by omega)
                · go_wp2
                  go_ret3
                  have hk2 : (s.extract z s.size).size ≤ k := by rw [HR.out]; omega
                  exact ⟨ret_num ((congrArg (dv 0) (take_all (s.extract z s.size) k hk2)).trans hrd.out : pre (s.extract z s.size) k = _) (num_le s h0 HA.out HL.out), 0, rfl⟩
          · have hlz : z < s.size := by omega
            have hb : ((s[z].toNat : Int) == 48) = false := by
              rw [beq_eq_false_iff_ne]
              intro e
              exact HC.out ⟨hlz, by rw [getElem!_pos s z hlz]; omega⟩
            by_cases hbig : 19 < s.size - z
            · have hgt : Hid (9223372036854775808 < dv 0 s.data.toList) := by
                show _ < _
                rw [← HZ.out, List.drop_eq_getElem_cons (by simpa using hlz)]
                refine dv_big _ _ ?_ (by simp; omega)
                have h1 := allD_at s z hlz HA.out
                have h2 : ¬ ((s[z].toNat : Int) = 48) := by simpa using hb
                show 48 < s[z].toNat
                omega
              go_wp2
              go_ret3
              exact ⟨congrArg Ending.returned (num_gt s h0 HA.out hgt.out).symm, 0, rfl⟩
            · have hq : ((((s.size - z : Nat) : Int)) == 19) = true := by rw [beq_iff_eq]; omega
              go_wp2
              go_loopw [8] (fun i wr => ∃ k : Nat, ∃ n : Nat, k ≤ 19 ∧ i = .int .i64 k ∧ Alike63 (s.extract z s.size) k ∧ wr = w.drewN n) (fun i _ => 19 - (intOf i).toNat)
              case atStart => exact ⟨0, 0, Nat.zero_le _, rfl, rfl, rfl⟩
              case round =>
                obtain ⟨k, n, hk, rfl, HT, rfl⟩ := hrel
                by_cases hlt : k < 19
                · have hix := idx63 k hlt
                  have hk2 : k < (s.extract z s.size).size := by rw [HR.out]; omega
                  by_cases heq : ((s.extract z s.size)[k].toNat : Int) = b63 k
                  · have hne : (((s.extract z s.size)[k].toNat : Int) != b63 k) = false := by rw [bne_eq_false_iff_eq]; exact heq
                    have HN := alike_step (s.extract z s.size) k hlt hk2 HT heq
                    clear heq
                    go_wp2
                    go_quiet (fail)
                    go_wp2
                    go_roundw
                    case rel => exact ⟨k + 1, _, by omega, by go_num, HN, rfl⟩
                    case measure => simp [intOf]; omega
                  · have hne : (((s.extract z s.size)[k].toNat : Int) != b63 k) = true := by rw [bne_iff_ne]; exact heq
                    by_cases hgt : b63 k < ((s.extract z s.size)[k].toNat : Int)
                    · have hdg : Hid (9223372036854775808 < dv 0 s.data.toList) := by
                        show _ < _
                        rw [← hrd.out]
                        exact alike_over (s.extract z s.size) (by rw [HR.out]; omega) k hlt hk2 HT hgt
                      clear heq
                      go_wp2
                      go_quiet (fail)
                      go_wp2
                      go_quiet (fail)
                      go_wp2
                      go_ret3
                      exact ⟨congrArg Ending.returned (num_gt s h0 HA.out hdg.out).symm, drewN_ex _ _ _ _⟩
                    · have hle : Hid (dv 0 (s.extract z s.size).data.toList ≤ 9223372036854775808) :=
                        alike_under (s.extract z s.size) (by rw [HR.out]; omega) hra.out k hlt hk2 HT (by omega)
                      have HL : Hid (dv 0 s.data.toList ≤ 9223372036854775808) := by
                        have h1 := hle.out
                        have h2 := hrd.out
                        show _ ≤ _
                        omega
                      clear heq
                      go_wp2
                      go_quiet (fail)
                      go_wp2
                      go_quiet (fail)
                      go_wp2
                      go_loop [9, 10] (fun m i => ∃ k : Nat, k ≤ s.size - z ∧ i = .int .i64 k ∧ m = .int .u64 (pre (s.extract z s.size) k : Int)) (fun _ i => s.size - (intOf i).toNat)
                      case atStart => exact ⟨0, Nat.zero_le _, rfl, by rw [pre_zero]; rfl⟩
                      case round =>
                        obtain ⟨k, hk, rfl, rfl⟩ := hrel
                        by_cases hlt : k < s.size - z
                        · have hk2 : k < (s.extract z s.size).size := by rw [HR.out]; exact hlt
                          have HS := step4' (s.extract z s.size) k hk2 hra hle
                          go_wp2
                          go_round
                          case rel => exact ⟨k + 1, by omega, by go_num, by first | exact HS.out | exact (Value.int.inj HS.out).2⟩
                          case measure => simp [intOf]; omega
                        · go_wp2
                          go_ret3
                          have hk2 : (s.extract z s.size).size ≤ k := by rw [HR.out]; omega
                          exact ⟨ret_num ((congrArg (dv 0) (take_all (s.extract z s.size) k hk2)).trans hrd.out : pre (s.extract z s.size) k = _) (num_le s h0 HA.out HL.out), _, rfl⟩
                · have hle : Hid (dv 0 (s.extract z s.size).data.toList ≤ 9223372036854775808) :=
                    alike_same (s.extract z s.size) (by rw [HR.out]; omega) k (by omega) HT
                  have HL : Hid (dv 0 s.data.toList ≤ 9223372036854775808) := by
                    have h1 := hle.out
                    have h2 := hrd.out
                    show _ ≤ _
                    omega
                  go_wp2
                  go_loop [9, 10] (fun m i => ∃ k : Nat, k ≤ s.size - z ∧ i = .int .i64 k ∧ m = .int .u64 (pre (s.extract z s.size) k : Int)) (fun _ i => s.size - (intOf i).toNat)
                  case atStart => exact ⟨0, Nat.zero_le _, rfl, by rw [pre_zero]; rfl⟩
                  case round =>
                    obtain ⟨k, hk, rfl, rfl⟩ := hrel
                    by_cases hlt : k < s.size - z
                    · have hk2 : k < (s.extract z s.size).size := by rw [HR.out]; exact hlt
                      have HS := step4' (s.extract z s.size) k hk2 hra hle
                      go_wp2
                      go_round
                      case rel => exact ⟨k + 1, by omega, by go_num, by first | exact HS.out | exact (Value.int.inj HS.out).2⟩
                      case measure => simp [intOf]; omega
                    · go_wp2
                      go_ret3
                      have hk2 : (s.extract z s.size).size ≤ k := by rw [HR.out]; omega
                      exact ⟨ret_num ((congrArg (dv 0) (take_all (s.extract z s.size) k hk2)).trans hrd.out : pre (s.extract z s.size) k = _) (num_le s h0 HA.out HL.out), _, rfl⟩
end Go.Proofs.Qxb6618510aFmt
