/-
  The walk of the law FnParseValueAppendDigit.
-/
import Derived.Test.Qxb6618510aFmtValue
namespace Go.Proofs.Qxb6618510aFmt
open Go.RowKit Pl Go.Extern.Stop Go.Stop Go.Extern

theorem bytes9 (s : ByteArray) (d : Int) (w : World) (h : s.size ≤ 1048576) : Calls Tryf.prog 9 #[.string s, .int .u8 d] w fun e w' => e = .returned (.bool true) ∧ w' = w := by
  go_enter Tryf.func9, Tryf.ntmps9
  go_wp2
  go_ret
  exact ⟨rfl, rfl⟩
theorem bytes9_no (s : ByteArray) (d : Int) (w : World) (h : 1048576 < s.size) : Calls Tryf.prog 9 #[.string s, .int .u8 d] w fun e w' => e = .returned (.bool false) ∧ w' = w := by
  go_enter Tryf.func9, Tryf.ntmps9
  go_wp2
  go_ret
  exact ⟨rfl, rfl⟩
theorem app_long (s : ByteArray) (d : Int) (w : World) (h : 1048576 < s.size) : Calls Tryf.prog 4 #[.string s, .int .u8 d] w fun e w' => e = .returned (.bool true) ∧ Below w.heap.size w w' := by
  go_enter Tryf.func4, Tryf.ntmps4
  go_wp2_with (go_at_call 9; refine (bytes9_no s d _ h).mono ?_; rintro e w' ⟨rfl, rfl⟩)
  go_ret
  exact ⟨rfl, Below.refl _ _⟩

theorem conv_one (c : UInt8) (W : World) : (convert 33 9 (.slice (some ⟨W.heap.size, 0, none⟩) 1 1)).run Tryf.prog (W.alloc (.cells #[.int .u8 (c.toNat : Int)] 5)) = .ok (.string ⟨#[c]⟩) (W.alloc (.cells #[.int .u8 (c.toNat : Int)] 5)) := by
  refine run_convert_bytes_back (P := Tryf.prog) _ 33 9 5 ⟨W.heap.size, 0, none⟩ 1 [c] Tryf.underlying33 Tryf.underlying5 Tryf.underlying9 ?_
  intro j hj
  have hj0 : j = 0 := by simp at hj; omega
  subst hj0
  simp [Addr.add]

/-- What ParseValue answered, by 'pv': the two results. -/
def Res (r : Option Int) (e : Ending) : Prop := match r with
  | some v => e = .returned (.tuple #[.int .i64 v, .nilIface])
  | none => ∃ a, e = .returned (.tuple #[.int .i64 0, .iface 51 (.pointer (some a))])

set_option maxHeartbeats 400000 in
theorem app_bad_e (s : ByteArray) (c : UInt8) (w : World) (h : s.size ≤ 1048576) (he : s.toList.isEmpty = true) (hd : (c.toNat : Int) < 48 ∨ 57 < (c.toNat : Int))
    (hc1 : Calls Tryf.prog 6 #[.string s] w fun e w' => Res (none) e ∧ Below w.heap.size w w')
    (hc2 : ∀ w1, Below w.heap.size w w1 → Calls Tryf.prog 6 #[.string (s ++ ⟨#[c]⟩)] (w1.alloc (.cells #[.int .u8 (c.toNat : Int)] 5)) fun e w' => Res (none) e ∧ Below w.heap.size (w1.alloc (.cells #[.int .u8 (c.toNat : Int)] 5)) w') :
    Calls Tryf.prog 4 #[.string s, .int .u8 (c.toNat : Int)] w fun e w' => e = .returned (.bool true) ∧ Below w.heap.size w w' := by
  have hcv := conv_one c
  have hlt := c.toNat_lt
  rcases hd with hd | hd
  all_goals
    go_enter Tryf.func4, Tryf.ntmps4
    go_wp2_with (go_at_call 9; refine (bytes9 s _ _ h).mono ?_; rintro e w' ⟨rfl, rfl⟩)
    refine hc1.mono ?_
    rintro e w1 ⟨⟨a1, rfl⟩, hb1⟩
    go_wp2_with fail
    refine (hc2 _ hb1).mono ?_
    rintro e w2 ⟨⟨a2, rfl⟩, hb2⟩
    go_wp2
    all_goals go_ret
    all_goals exact ⟨rfl, (hb1.alloc hb1.size _).trans hb2⟩

set_option maxHeartbeats 400000 in
theorem app_bad_m (s : ByteArray) (c : UInt8) (w : World) (h : s.size ≤ 1048576) (he : s.toList.isEmpty = false) (hm : (s.toList == [45]) = true) (hd : (c.toNat : Int) < 48 ∨ 57 < (c.toNat : Int))
    (hc1 : Calls Tryf.prog 6 #[.string s] w fun e w' => Res (none) e ∧ Below w.heap.size w w')
    (hc2 : ∀ w1, Below w.heap.size w w1 → Calls Tryf.prog 6 #[.string (s ++ ⟨#[c]⟩)] (w1.alloc (.cells #[.int .u8 (c.toNat : Int)] 5)) fun e w' => Res (none) e ∧ Below w.heap.size (w1.alloc (.cells #[.int .u8 (c.toNat : Int)] 5)) w') :
    Calls Tryf.prog 4 #[.string s, .int .u8 (c.toNat : Int)] w fun e w' => e = .returned (.bool true) ∧ Below w.heap.size w w' := by
  have hcv := conv_one c
  have hlt := c.toNat_lt
  rcases hd with hd | hd
  all_goals
    go_enter Tryf.func4, Tryf.ntmps4
    go_wp2_with (go_at_call 9; refine (bytes9 s _ _ h).mono ?_; rintro e w' ⟨rfl, rfl⟩)
    refine hc1.mono ?_
    rintro e w1 ⟨⟨a1, rfl⟩, hb1⟩
    go_wp2_with fail
    refine (hc2 _ hb1).mono ?_
    rintro e w2 ⟨⟨a2, rfl⟩, hb2⟩
    go_wp2
    all_goals go_ret
    all_goals exact ⟨rfl, (hb1.alloc hb1.size _).trans hb2⟩

set_option maxHeartbeats 400000 in
theorem app_bad_s (s : ByteArray) (c : UInt8) (v : Int) (w : World) (h : s.size ≤ 1048576) (he : s.toList.isEmpty = false) (hm : (s.toList == [45]) = false) (hd : (c.toNat : Int) < 48 ∨ 57 < (c.toNat : Int))
    (hc1 : Calls Tryf.prog 6 #[.string s] w fun e w' => Res (some v) e ∧ Below w.heap.size w w')
    (hc2 : ∀ w1, Below w.heap.size w w1 → Calls Tryf.prog 6 #[.string (s ++ ⟨#[c]⟩)] (w1.alloc (.cells #[.int .u8 (c.toNat : Int)] 5)) fun e w' => Res (none) e ∧ Below w.heap.size (w1.alloc (.cells #[.int .u8 (c.toNat : Int)] 5)) w') :
    Calls Tryf.prog 4 #[.string s, .int .u8 (c.toNat : Int)] w fun e w' => e = .returned (.bool true) ∧ Below w.heap.size w w' := by
  have hcv := conv_one c
  have hlt := c.toNat_lt
  rcases hd with hd | hd
  all_goals
    go_enter Tryf.func4, Tryf.ntmps4
    go_wp2_with (go_at_call 9; refine (bytes9 s _ _ h).mono ?_; rintro e w' ⟨rfl, rfl⟩)
    refine hc1.mono ?_
    rintro e w1 ⟨rfl, hb1⟩
    go_wp2_with fail
    refine (hc2 _ hb1).mono ?_
    rintro e w2 ⟨⟨a2, rfl⟩, hb2⟩
    go_wp2
    all_goals go_ret
    all_goals exact ⟨rfl, (hb1.alloc hb1.size _).trans hb2⟩

set_option maxHeartbeats 400000 in
theorem app_bad_n (s : ByteArray) (c : UInt8) (w : World) (h : s.size ≤ 1048576) (he : s.toList.isEmpty = false) (hm : (s.toList == [45]) = false) (hd : (c.toNat : Int) < 48 ∨ 57 < (c.toNat : Int))
    (hc1 : Calls Tryf.prog 6 #[.string s] w fun e w' => Res (none) e ∧ Below w.heap.size w w')
    (hc2 : ∀ w1, Below w.heap.size w w1 → Calls Tryf.prog 6 #[.string (s ++ ⟨#[c]⟩)] (w1.alloc (.cells #[.int .u8 (c.toNat : Int)] 5)) fun e w' => Res (none) e ∧ Below w.heap.size (w1.alloc (.cells #[.int .u8 (c.toNat : Int)] 5)) w') :
    Calls Tryf.prog 4 #[.string s, .int .u8 (c.toNat : Int)] w fun e w' => e = .returned (.bool true) ∧ Below w.heap.size w w' := by
  have hcv := conv_one c
  have hlt := c.toNat_lt
  rcases hd with hd | hd
  all_goals
    go_enter Tryf.func4, Tryf.ntmps4
    go_wp2_with (go_at_call 9; refine (bytes9 s _ _ h).mono ?_; rintro e w' ⟨rfl, rfl⟩)
    refine hc1.mono ?_
    rintro e w1 ⟨⟨a1, rfl⟩, hb1⟩
    go_wp2_with fail
    refine (hc2 _ hb1).mono ?_
    rintro e w2 ⟨⟨a2, rfl⟩, hb2⟩
    go_wp2
    all_goals go_ret
    all_goals exact ⟨rfl, (hb1.alloc hb1.size _).trans hb2⟩

set_option maxHeartbeats 400000 in
theorem app_dig_e (s : ByteArray) (c : UInt8) (w : World) (h : s.size ≤ 1048576) (he : s.toList.isEmpty = true) (hz : s.size = 0) (hd : 48 ≤ (c.toNat : Int)) (hd2 : (c.toNat : Int) ≤ 57)
    (hc1 : Calls Tryf.prog 6 #[.string s] w fun e w' => Res (none) e ∧ Below w.heap.size w w')
    (hc2 : ∀ w1, Below w.heap.size w w1 → Calls Tryf.prog 6 #[.string (s ++ ⟨#[c]⟩)] (w1.alloc (.cells #[.int .u8 (c.toNat : Int)] 5)) fun e w' => Res (some ((c.toNat : Int) - 48)) e ∧ Below w.heap.size (w1.alloc (.cells #[.int .u8 (c.toNat : Int)] 5)) w') :
    Calls Tryf.prog 4 #[.string s, .int .u8 (c.toNat : Int)] w fun e w' => e = .returned (.bool true) ∧ Below w.heap.size w w' := by
  have hcv := conv_one c
  have hlt := c.toNat_lt
  go_enter Tryf.func4, Tryf.ntmps4
  go_wp2_with (go_at_call 9; refine (bytes9 s _ _ h).mono ?_; rintro e w' ⟨rfl, rfl⟩)
  refine hc1.mono ?_
  rintro e w1 ⟨⟨a1, rfl⟩, hb1⟩
  go_wp2_with fail
  refine (hc2 _ hb1).mono ?_
  rintro e w2 ⟨rfl, hb2⟩
  go_wp2
  all_goals go_ret
  all_goals exact ⟨rfl, (hb1.alloc hb1.size _).trans hb2⟩

set_option maxHeartbeats 400000 in
theorem app_dig_m (s : ByteArray) (c : UInt8) (w : World) (h : s.size ≤ 1048576) (he : s.toList.isEmpty = false) (hm : (s.toList == [45]) = true) (hz : 0 < s.size) (h45 : ((s[0].toNat : Int) == 45) = true) (hd : 48 ≤ (c.toNat : Int)) (hd2 : (c.toNat : Int) ≤ 57)
    (hc1 : Calls Tryf.prog 6 #[.string s] w fun e w' => Res (none) e ∧ Below w.heap.size w w')
    (hc2 : ∀ w1, Below w.heap.size w w1 → Calls Tryf.prog 6 #[.string (s ++ ⟨#[c]⟩)] (w1.alloc (.cells #[.int .u8 (c.toNat : Int)] 5)) fun e w' => Res (some (-((c.toNat : Int) - 48))) e ∧ Below w.heap.size (w1.alloc (.cells #[.int .u8 (c.toNat : Int)] 5)) w') :
    Calls Tryf.prog 4 #[.string s, .int .u8 (c.toNat : Int)] w fun e w' => e = .returned (.bool true) ∧ Below w.heap.size w w' := by
  have hcv := conv_one c
  have hlt := c.toNat_lt
  go_enter Tryf.func4, Tryf.ntmps4
  go_wp2_with (go_at_call 9; refine (bytes9 s _ _ h).mono ?_; rintro e w' ⟨rfl, rfl⟩)
  refine hc1.mono ?_
  rintro e w1 ⟨⟨a1, rfl⟩, hb1⟩
  go_wp2_with fail
  refine (hc2 _ hb1).mono ?_
  rintro e w2 ⟨rfl, hb2⟩
  go_wp2
  all_goals go_ret
  all_goals exact ⟨rfl, (hb1.alloc hb1.size _).trans hb2⟩

set_option maxHeartbeats 400000 in
theorem app_dig_n (s : ByteArray) (c : UInt8) (w : World) (h : s.size ≤ 1048576) (he : s.toList.isEmpty = false) (hm : (s.toList == [45]) = false) (hd : 48 ≤ (c.toNat : Int)) (hd2 : (c.toNat : Int) ≤ 57)
    (hc1 : Calls Tryf.prog 6 #[.string s] w fun e w' => Res (none) e ∧ Below w.heap.size w w')
    (hc2 : ∀ w1, Below w.heap.size w w1 → Calls Tryf.prog 6 #[.string (s ++ ⟨#[c]⟩)] (w1.alloc (.cells #[.int .u8 (c.toNat : Int)] 5)) fun e w' => Res (none) e ∧ Below w.heap.size (w1.alloc (.cells #[.int .u8 (c.toNat : Int)] 5)) w') :
    Calls Tryf.prog 4 #[.string s, .int .u8 (c.toNat : Int)] w fun e w' => e = .returned (.bool true) ∧ Below w.heap.size w w' := by
  have hcv := conv_one c
  have hlt := c.toNat_lt
  go_enter Tryf.func4, Tryf.ntmps4
  go_wp2_with (go_at_call 9; refine (bytes9 s _ _ h).mono ?_; rintro e w' ⟨rfl, rfl⟩)
  refine hc1.mono ?_
  rintro e w1 ⟨⟨a1, rfl⟩, hb1⟩
  go_wp2_with fail
  refine (hc2 _ hb1).mono ?_
  rintro e w2 ⟨⟨a2, rfl⟩, hb2⟩
  go_wp2
  all_goals go_ret
  all_goals exact ⟨rfl, (hb1.alloc hb1.size _).trans hb2⟩

set_option maxHeartbeats 400000 in
theorem app_neg_over (s : ByteArray) (c : UInt8) (v : Int) (w : World) (h : s.size ≤ 1048576) (he : s.toList.isEmpty = false) (hm : (s.toList == [45]) = false) (hz : 0 < s.size) (h45 : ((s[0].toNat : Int) == 45) = true) (hd : 48 ≤ (c.toNat : Int)) (hd2 : (c.toNat : Int) ≤ 57) (hv : v < -922337203685477580 ∨ (v = -922337203685477580 ∧ 8 < (c.toNat : Int) - 48))
    (hc1 : Calls Tryf.prog 6 #[.string s] w fun e w' => Res (some v) e ∧ Below w.heap.size w w')
    (hc2 : ∀ w1, Below w.heap.size w w1 → Calls Tryf.prog 6 #[.string (s ++ ⟨#[c]⟩)] (w1.alloc (.cells #[.int .u8 (c.toNat : Int)] 5)) fun e w' => Res (none) e ∧ Below w.heap.size (w1.alloc (.cells #[.int .u8 (c.toNat : Int)] 5)) w') :
    Calls Tryf.prog 4 #[.string s, .int .u8 (c.toNat : Int)] w fun e w' => e = .returned (.bool true) ∧ Below w.heap.size w w' := by
  have hcv := conv_one c
  have hlt := c.toNat_lt
  rcases hv with hv | ⟨hv, hv2⟩
  all_goals
    go_enter Tryf.func4, Tryf.ntmps4
    go_wp2_with (go_at_call 9; refine (bytes9 s _ _ h).mono ?_; rintro e w' ⟨rfl, rfl⟩)
    refine hc1.mono ?_
    rintro e w1 ⟨rfl, hb1⟩
    go_wp2_with fail
    refine (hc2 _ hb1).mono ?_
    rintro e w2 ⟨⟨a2, rfl⟩, hb2⟩
    go_wp2
    all_goals go_ret
    all_goals exact ⟨rfl, (hb1.alloc hb1.size _).trans hb2⟩

set_option maxHeartbeats 400000 in
theorem app_neg_ok (s : ByteArray) (c : UInt8) (v : Int) (w : World) (h : s.size ≤ 1048576) (he : s.toList.isEmpty = false) (hm : (s.toList == [45]) = false) (hz : 0 < s.size) (h45 : ((s[0].toNat : Int) == 45) = true) (hd : 48 ≤ (c.toNat : Int)) (hd2 : (c.toNat : Int) ≤ 57) (hr : v ≤ 0) (hv : -922337203685477580 < v ∨ (v = -922337203685477580 ∧ (c.toNat : Int) - 48 ≤ 8))
    (hc1 : Calls Tryf.prog 6 #[.string s] w fun e w' => Res (some v) e ∧ Below w.heap.size w w')
    (hc2 : ∀ w1, Below w.heap.size w w1 → Calls Tryf.prog 6 #[.string (s ++ ⟨#[c]⟩)] (w1.alloc (.cells #[.int .u8 (c.toNat : Int)] 5)) fun e w' => Res (some (v * 10 - ((c.toNat : Int) - 48))) e ∧ Below w.heap.size (w1.alloc (.cells #[.int .u8 (c.toNat : Int)] 5)) w') :
    Calls Tryf.prog 4 #[.string s, .int .u8 (c.toNat : Int)] w fun e w' => e = .returned (.bool true) ∧ Below w.heap.size w w' := by
  have hcv := conv_one c
  have hlt := c.toNat_lt
  rcases hv with hv | ⟨rfl, hv2⟩
  all_goals
    go_enter Tryf.func4, Tryf.ntmps4
    go_wp2_with (go_at_call 9; refine (bytes9 s _ _ h).mono ?_; rintro e w' ⟨rfl, rfl⟩)
    refine hc1.mono ?_
    rintro e w1 ⟨rfl, hb1⟩
    go_wp2_with fail
    refine (hc2 _ hb1).mono ?_
    rintro e w2 ⟨rfl, hb2⟩
    go_wp2
    all_goals go_ret
    all_goals exact ⟨rfl, (hb1.alloc hb1.size _).trans hb2⟩

set_option maxHeartbeats 400000 in
theorem app_pos_over (s : ByteArray) (c : UInt8) (v : Int) (w : World) (h : s.size ≤ 1048576) (he : s.toList.isEmpty = false) (hm : (s.toList == [45]) = false) (hz : 0 < s.size) (h45 : ((s[0].toNat : Int) == 45) = false) (hd : 48 ≤ (c.toNat : Int)) (hd2 : (c.toNat : Int) ≤ 57) (hv : 922337203685477580 < v ∨ (v = 922337203685477580 ∧ 7 < (c.toNat : Int) - 48))
    (hc1 : Calls Tryf.prog 6 #[.string s] w fun e w' => Res (some v) e ∧ Below w.heap.size w w')
    (hc2 : ∀ w1, Below w.heap.size w w1 → Calls Tryf.prog 6 #[.string (s ++ ⟨#[c]⟩)] (w1.alloc (.cells #[.int .u8 (c.toNat : Int)] 5)) fun e w' => Res (none) e ∧ Below w.heap.size (w1.alloc (.cells #[.int .u8 (c.toNat : Int)] 5)) w') :
    Calls Tryf.prog 4 #[.string s, .int .u8 (c.toNat : Int)] w fun e w' => e = .returned (.bool true) ∧ Below w.heap.size w w' := by
  have hcv := conv_one c
  have hlt := c.toNat_lt
  rcases hv with hv | ⟨hv, hv2⟩
  all_goals
    go_enter Tryf.func4, Tryf.ntmps4
    go_wp2_with (go_at_call 9; refine (bytes9 s _ _ h).mono ?_; rintro e w' ⟨rfl, rfl⟩)
    refine hc1.mono ?_
    rintro e w1 ⟨rfl, hb1⟩
    go_wp2_with fail
    refine (hc2 _ hb1).mono ?_
    rintro e w2 ⟨⟨a2, rfl⟩, hb2⟩
    go_wp2
    all_goals go_ret
    all_goals exact ⟨rfl, (hb1.alloc hb1.size _).trans hb2⟩

set_option maxHeartbeats 400000 in
theorem app_pos_ok (s : ByteArray) (c : UInt8) (v : Int) (w : World) (h : s.size ≤ 1048576) (he : s.toList.isEmpty = false) (hm : (s.toList == [45]) = false) (hz : 0 < s.size) (h45 : ((s[0].toNat : Int) == 45) = false) (hd : 48 ≤ (c.toNat : Int)) (hd2 : (c.toNat : Int) ≤ 57) (hr : 0 ≤ v) (hv : v < 922337203685477580 ∨ (v = 922337203685477580 ∧ (c.toNat : Int) - 48 ≤ 7))
    (hc1 : Calls Tryf.prog 6 #[.string s] w fun e w' => Res (some v) e ∧ Below w.heap.size w w')
    (hc2 : ∀ w1, Below w.heap.size w w1 → Calls Tryf.prog 6 #[.string (s ++ ⟨#[c]⟩)] (w1.alloc (.cells #[.int .u8 (c.toNat : Int)] 5)) fun e w' => Res (some (v * 10 + ((c.toNat : Int) - 48))) e ∧ Below w.heap.size (w1.alloc (.cells #[.int .u8 (c.toNat : Int)] 5)) w') :
    Calls Tryf.prog 4 #[.string s, .int .u8 (c.toNat : Int)] w fun e w' => e = .returned (.bool true) ∧ Below w.heap.size w w' := by
  have hcv := conv_one c
  have hlt := c.toNat_lt
  rcases hv with hv | ⟨rfl, hv2⟩
  all_goals
    go_enter Tryf.func4, Tryf.ntmps4
    go_wp2_with (go_at_call 9; refine (bytes9 s _ _ h).mono ?_; rintro e w' ⟨rfl, rfl⟩)
    refine hc1.mono ?_
    rintro e w1 ⟨rfl, hb1⟩
    go_wp2_with fail
    refine (hc2 _ hb1).mono ?_
    rintro e w2 ⟨rfl, hb2⟩
    go_wp2
    all_goals go_ret
    all_goals exact ⟨rfl, (hb1.alloc hb1.size _).trans hb2⟩

end Go.Proofs.Qxb6618510aFmt
