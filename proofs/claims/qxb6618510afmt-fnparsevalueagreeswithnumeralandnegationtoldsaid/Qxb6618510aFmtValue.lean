/-
  ParseValue: its contract, by the plain function 'pv'.
-/
import Derived.Test.Qxb6618510aFmtParse
import Derived.Test.Qxb6618510aFmtShelf
namespace Go.Proofs.Qxb6618510aFmt
open Go.RowKit Pl Go.Extern.Stop Go.Stop Go.Extern

theorem len_eq (s : ByteArray) : s.data.toList.length = s.size := Array.length_toList

theorem pint_ok (s : ByteArray) (hmax : s.size ≤ 281474976710656) (v : Int) (h : Lib.parseIntB 64 s.data.toList = .ok v) (w : World) :
    Calls Tryf.prog 13 #[.string s, .int .i64 10, .int .i64 64] w fun e w' => e = .returned (.tuple #[.int .i64 v, .nilIface]) ∧ Below w.heap.size w w' := by
  refine (Any.strconv_ParseInt_10_at64_ok Tryf.laysC174 s (by omega) v h w).mono ?_
  rintro e w' ⟨rfl, hw⟩
  refine ⟨rfl, ?_⟩
  rcases hw with rfl | ⟨t, rfl⟩
  · exact Below.refl _ _
  · exact Lib.bytesWorld_below _ _ _

theorem pint_err (s : ByteArray) (hlim : s.size ≤ 281474976710656) (h : ∀ v, Lib.parseIntB 64 s.data.toList ≠ .ok v) (w : World)
    (hv0 : ∃ t p, w.cell? ⟨0, 0, none⟩ = some (.iface t p)) (hv1 : ∃ t p, w.cell? ⟨1, 0, none⟩ = some (.iface t p)) :
    Calls Tryf.prog 13 #[.string s, .int .i64 10, .int .i64 64] w fun e w' => (∃ v t p, e = .returned (.tuple #[.int .i64 v, .iface t p])) ∧ Below w.heap.size w w' := by
  obtain ⟨t0, p0, hv0⟩ := hv0
  obtain ⟨t1, p1, hv1⟩ := hv1
  cases hp : Lib.parseIntB 64 s.data.toList with
  | ok v => exact absurd hp (h v)
  | range =>
    refine (Any.strconv_ParseInt_10_at64_range Tryf.laysC174 s hlim hp _ w hv1 (Or.inr ⟨_, _, rfl⟩)).mono ?_
    rintro e w' ⟨N, rfl, _, _, hb⟩
    exact ⟨⟨_, _, _, rfl⟩, hb⟩
  | _ =>
    refine (Any.strconv_ParseInt_10_at64_syntax Tryf.laysC174 s hlim hp _ w hv0 (Or.inr ⟨_, _, rfl⟩)).mono ?_
    rintro e w' ⟨N, rfl, _, _, hb⟩
    exact ⟨⟨_, _, _, rfl⟩, hb⟩

/-- What CutPrefix hands on. -/
theorem cut_any (s : ByteArray) : ∃ m : ByteArray, m.data.toList = mag s.data.toList ∧ ∀ w, Calls Tryf.prog 11 #[.string s, .string ⟨#[45]⟩] w fun e w' => e = .returned (.tuple #[.string m, .bool (neg s.data.toList)]) ∧ w' = w := by
  by_cases h : s.data.toList.head? = some 45
  · refine ⟨s.extract 1 s.size, ?_, fun w => ?_⟩
    · rw [ext_tail, mag, if_pos h]
    · have hn : neg s.data.toList = true := by simp [neg, h]
      rw [hn]; exact cut_yes s w h
  · refine ⟨s, ?_, fun w => ?_⟩
    · rw [mag, if_neg h]
    · have hn : neg s.data.toList = false := by simp [neg, h]
      rw [hn]; exact cut_no s w h

theorem swd_true (m : ByteArray) (h : swd m.data.toList = true) (w : World) : Calls Tryf.prog 14 #[.string m] w fun e w' => e = .returned (.bool true) ∧ w' = w := by
  have hl := len_eq m
  cases e : m.data.toList with
  | nil => rw [e] at h; cases h
  | cons c r =>
    rw [e] at h hl
    simp only [List.length_cons] at hl
    have h0 : m[0]'(by omega) = c := by
      have h1 : m[0]'(by omega) = m.data.toList[0]'(by rw [e]; simp) := rfl
      rw [h1]; simp [e]
    simp only [swd] at h
    have := swd_any m w (by omega)
    rw [h0, h] at this
    exact this
theorem swd_false (m : ByteArray) (h : swd m.data.toList = false) (w : World) : Calls Tryf.prog 14 #[.string m] w fun e w' => e = .returned (.bool false) ∧ w' = w := by
  have hl := len_eq m
  cases e : m.data.toList with
  | nil => rw [e] at hl; exact swd_empty m w (by simpa using hl.symm)
  | cons c r =>
    rw [e] at h hl
    simp only [List.length_cons] at hl
    have h0 : m[0]'(by omega) = c := by
      have h1 : m[0]'(by omega) = m.data.toList[0]'(by rw [e]; simp) := rfl
      rw [h1]; simp [e]
    simp only [swd] at h
    have := swd_any m w (by omega)
    rw [h0, h] at this
    exact this
theorem short_no (m : ByteArray) (h : ¬ (0 < m.size ∧ m.size ≤ 18 ∧ allD m.data.toList = true)) (w : World) : Calls Tryf.prog 12 #[.string m] w fun e w' => e = .returned (.tuple #[.int .i64 0, .bool false]) ∧ w' = w := by
  by_cases h0 : m.size = 0
  · exact short_empty m w h0
  · by_cases h18 : 18 < m.size
    · exact short_long m w h18
    · refine short_bad m w (by omega) (by omega) ?_
      cases ha : allD m.data.toList with
      | false => rfl
      | true => exact absurd ⟨by omega, by omega, ha⟩ h

/-- parseInteger takes just what 'pv' takes. -/
theorem int_some (what s : ByteArray) (hlim : s.size ≤ 281474976710656) (v : Int) (h : pv s.data.toList = some v) (w : World) :
    Calls Tryf.prog 10 #[.string what, .string s] w fun e w' => e = .returned (.tuple #[.int .i64 v, .nilIface]) ∧ Below w.heap.size w w' := by
  obtain ⟨m, hm, hcut⟩ := cut_any s
  by_cases hs : 0 < m.size ∧ m.size ≤ 18 ∧ allD m.data.toList = true
  · obtain ⟨h0, h18, ha⟩ := hs
    have hl := len_eq m
    have hp := pv_short s.data.toList (by rw [← hm]; intro e; rw [e] at hl; simp at hl; omega) (by rw [← hm]; exact ha) (by rw [← hm]; omega)
    rw [h] at hp
    have hv := Option.some.inj hp
    rw [← hm] at hv
    refine (int_short what s m _ w hcut h0 h18 ha).mono ?_
    rintro e w' ⟨rfl, rfl⟩
    exact ⟨by rw [hv], Below.refl _ _⟩
  · have hsw : swd (mag s.data.toList) = true := by
      cases hx : swd (mag s.data.toList) with
      | true => rfl
      | false => rw [pv_none_of_swd _ hx] at h; cases h
    have hp := parse_pv s.data.toList hsw
    cases hq : Lib.parseIntB 64 s.data.toList with
    | ok v' =>
      rw [hq] at hp
      dsimp only at hp
      rw [h] at hp
      have hv := Option.some.inj hp
      subst hv
      exact int_ok what s m _ v w hcut (short_no m hs) (pint_ok s hlim v hq) (swd_true m (by rw [hm]; exact hsw))
    | range => rw [hq] at hp; dsimp only at hp; rw [h] at hp; cases hp
    | _ => rw [hq] at hp; dsimp only at hp; rw [h] at hp; cases hp

theorem int_none (F : Interp) (what s : ByteArray) (hlim : s.size ≤ 281474976710656) (h : pv s.data.toList = none) (w : World) (hF : F.answers w.tape)
    (hv0 : ∃ t p, w.cell? ⟨0, 0, none⟩ = some (.iface t p)) (hv1 : ∃ t p, w.cell? ⟨1, 0, none⟩ = some (.iface t p)) :
    Calls Tryf.prog 10 #[.string what, .string s] w fun e w' => (∃ a, e = .returned (.tuple #[.int .i64 0, .iface 51 (.pointer (some a))])) ∧ Below w.heap.size w w' := by
  obtain ⟨m, hm, hcut⟩ := cut_any s
  have hl := len_eq m
  have hs : ¬ (0 < m.size ∧ m.size ≤ 18 ∧ allD m.data.toList = true) := by
    rintro ⟨h0, h18, ha⟩
    have hp := pv_short s.data.toList (by rw [← hm]; intro e; rw [e] at hl; simp at hl; omega) (by rw [← hm]; exact ha) (by rw [← hm]; omega)
    rw [h] at hp; cases hp
  by_cases hq : ∃ v, Lib.parseIntB 64 s.data.toList = .ok v
  · obtain ⟨v, hq⟩ := hq
    have hsw : swd (mag s.data.toList) = false := by
      cases hx : swd (mag s.data.toList) with
      | false => rfl
      | true =>
        have hp := parse_pv s.data.toList hx
        rw [hq] at hp
        dsimp only at hp
        rw [h] at hp; cases hp
    exact int_sign F what s m _ v w hF hcut (short_no m hs) (pint_ok s hlim v hq) (swd_false m (by rw [hm]; exact hsw))
  · exact int_err F what s m _ w hF hcut (short_no m hs) (pint_err s hlim (fun v e => hq ⟨v, e⟩) w hv0 hv1)

/-- ParseValue. -/
theorem value_some (s : ByteArray) (hlim : s.size ≤ 281474976710656) (v : Int) (h : pv s.data.toList = some v) (w : World) :
    Calls Tryf.prog 6 #[.string s] w fun e w' => e = .returned (.tuple #[.int .i64 v, .nilIface]) ∧ Below w.heap.size w w' := by
  have hc := fun what => int_some what s hlim v h w
  clear h hlim
  go_enter Tryf.func6, Tryf.ntmps6
  go_wp2_with (go_at_call 10; refine (hc _).mono ?_; rintro e w1 ⟨rfl, hb1⟩)
  go_ret2
  exact ⟨rfl, hb1⟩
theorem value_none (F : Interp) (s : ByteArray) (hlim : s.size ≤ 281474976710656) (h : pv s.data.toList = none) (w : World) (hF : F.answers w.tape)
    (hv0 : ∃ t p, w.cell? ⟨0, 0, none⟩ = some (.iface t p)) (hv1 : ∃ t p, w.cell? ⟨1, 0, none⟩ = some (.iface t p)) :
    Calls Tryf.prog 6 #[.string s] w fun e w' => (∃ a, e = .returned (.tuple #[.int .i64 0, .iface 51 (.pointer (some a))])) ∧ Below w.heap.size w w' := by
  have hc := fun what => int_none F what s hlim h w hF hv0 hv1
  clear h hlim hv0 hv1
  go_enter Tryf.func6, Tryf.ntmps6
  go_wp2_with (go_at_call 10; refine (hc _).mono ?_; rintro e w1 ⟨⟨a, rfl⟩, hb1⟩)
  go_ret2
  exact ⟨⟨a, rfl⟩, hb1⟩
end Go.Proofs.Qxb6618510aFmt
