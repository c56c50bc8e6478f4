/-
  The plain laws of the law's own numeral reader: no Go in sight.
-/
import Derived.Test.Qxb6618510aFmtPlain
namespace Go.Proofs.Qxb6618510aFmt.Pl
set_option linter.unusedSimpArgs false

theorem dv_append (l r : List UInt8) : ∀ acc, dv acc (l ++ r) = dv (dv acc l) r := by
  intro acc; unfold dv; rw [List.foldl_append]
theorem dv_acc (l : List UInt8) : ∀ acc, dv acc l = acc * 10 ^ l.length + dv 0 l := by
  induction l with
  | nil => intro acc; simp [dv_nil]
  | cons c r ih =>
    intro acc
    rw [dv_cons, dv_cons, ih, ih (0 * 10 + (c.toNat - 48)), List.length_cons, Nat.pow_succ]
    have : (acc * 10 + (c.toNat - 48)) * 10 ^ r.length = acc * (10 ^ r.length * 10) + (c.toNat - 48) * 10 ^ r.length := by
      rw [Nat.add_mul, Nat.mul_assoc, Nat.mul_comm 10]
    rw [this]
    have h2 : (0 * 10 + (c.toNat - 48)) = c.toNat - 48 := by omega
    rw [h2]
    omega
theorem dv_small (l : List UInt8) (h : allD l = true) : dv 0 l < 10 ^ l.length := by
  have := dv_lt l 0 h
  simpa using this

/-- Two numerals of one length that part first at x against y. -/
theorem dv_part (p u v : List UInt8) (x y : UInt8) (hl : u.length = v.length) (hu : allD u = true) (hxy : x.toNat - 48 < y.toNat - 48) :
    dv 0 (p ++ x :: u) < dv 0 (p ++ y :: v) := by
  rw [dv_append, dv_append, dv_cons, dv_cons, dv_acc u, dv_acc v, hl]
  have h1 := dv_small u hu
  rw [hl] at h1
  have h2 : (dv 0 p * 10 + (x.toNat - 48) + 1) * 10 ^ v.length ≤ (dv 0 p * 10 + (y.toNat - 48)) * 10 ^ v.length := Nat.mul_le_mul_right _ (by omega)
  rw [Nat.add_mul, Nat.one_mul] at h2
  omega

/-- Leading zeros count for nothing. -/
theorem dv_zero (r : List UInt8) : dv 0 (48 :: r) = dv 0 r := by
  rw [dv_cons]; rfl

/-- A numeral that begins with no zero, of more than nineteen digits. -/
theorem dv_big (c : UInt8) (r : List UInt8) (h : 48 < c.toNat) (hl : 19 ≤ r.length) : 9223372036854775808 < dv 0 (c :: r) := by
  rw [dv_cons, dv_acc]
  have h1 : 10 ^ 19 ≤ 10 ^ r.length := Nat.pow_le_pow_right (by omega) hl
  have h2 : 1 * 10 ^ r.length ≤ (0 * 10 + (c.toNat - 48)) * 10 ^ r.length := Nat.mul_le_mul_right _ (by omega)
  have h3 : (10 : Nat) ^ 19 = 10000000000000000000 := by decide
  omega

/-- Two to the sixty-third, as the law spells it. -/
def two63 : List UInt8 := [57, 50, 50, 51, 51, 55, 50, 48, 51, 54, 56, 53, 52, 55, 55, 53, 56, 48, 56]
theorem two63_dv : dv 0 two63 = 9223372036854775808 := by decide
theorem two63_all : allD two63 = true := by decide
theorem two63_len : two63.length = 19 := rfl

theorem split_at (l : List UInt8) (i : Nat) (h : i < l.length) : l = l.take i ++ l[i] :: l.drop (i + 1) := by
  rw [← List.drop_eq_getElem_cons h, List.take_append_drop]

theorem allD_drop (l : List UInt8) (k : Nat) (h : allD l = true) : allD (l.drop k) = true := by
  unfold allD at *
  rw [List.all_eq_true] at *
  exact fun x hx => h x (List.mem_of_mem_drop hx)
theorem allD_get (l : List UInt8) (i : Nat) (h : i < l.length) (ha : allD l = true) : 48 ≤ l[i].toNat ∧ l[i].toNat ≤ 57 := by
  unfold allD at ha
  rw [List.all_eq_true] at ha
  exact isD_true.1 (ha _ (List.getElem_mem h))

/-- Nineteen digits, alike up to i, greater there. -/
theorem over63 (l : List UInt8) (hl : l.length = 19) (i : Nat) (hi : i < 19) (hp : l.take i = two63.take i) (hgt : (two63[i]'hi).toNat < (l[i]'(by omega)).toNat) : 9223372036854775808 < dv 0 l := by
  have e1 := split_at l i (by omega)
  have e2 := split_at two63 i hi
  have hd := dv_part (two63.take i) (two63.drop (i + 1)) (l.drop (i + 1)) (two63[i]'hi) (l[i]'(by omega)) (by simp [hl, two63_len]) (allD_drop _ _ two63_all) (by
    have h1 := allD_get two63 i hi two63_all
    omega)
  rw [← e2, two63_dv] at hd
  rw [e1, hp]
  exact hd
theorem under63 (l : List UInt8) (hl : l.length = 19) (ha : allD l = true) (i : Nat) (hi : i < 19) (hp : l.take i = two63.take i) (hlt : (l[i]'(by omega)).toNat < (two63[i]'hi).toNat) : dv 0 l ≤ 9223372036854775808 := by
  have e1 := split_at l i (by omega)
  have e2 := split_at two63 i hi
  have hd := dv_part (two63.take i) (l.drop (i + 1)) (two63.drop (i + 1)) (l[i]'(by omega)) (two63[i]'hi) (by simp [hl, two63_len]) (allD_drop _ _ ha) (by
    have h1 := allD_get l i (by omega) ha
    omega)
  rw [← e2, two63_dv, ← hp, ← e1] at hd
  omega
theorem same63 (l : List UInt8) (hl : l.length = 19) (hp : l.take 19 = two63.take 19) : dv 0 l ≤ 9223372036854775808 := by
  rw [List.take_of_length_le (by omega), List.take_of_length_le (by rw [two63_len]; omega)] at hp
  rw [hp, two63_dv]; omega

/-- zzNumeral, as a plain function. -/
def numeral (l : List UInt8) : Nat × Bool × Bool :=
  if l = [] ∨ allD l = false then (0, false, false)
  else if 9223372036854775808 < dv 0 l then (0, true, true)
  else (dv 0 l, true, false)

/-- What ParseValue answers of a minus ahead of l. -/
theorem pv_minus_cons (l : List UInt8) : pv (45 :: l) = if l = [] ∨ allD l = false then none else if dv 0 l ≤ 9223372036854775808 then some (-(dv 0 l : Int)) else none := by
  have hm : mag (45 :: l) = l := by simp [mag]
  have hn : neg (45 :: l) = true := by simp [neg]
  unfold pv
  rw [hm, hn, if_pos rfl]
theorem pv_plain (l : List UInt8) (h : neg l = false) : pv l = if l = [] ∨ allD l = false then none else if dv 0 l < 9223372036854775808 then some (dv 0 l : Int) else none := by
  have hm : mag l = l := by
    unfold neg at h
    have : ¬ (l.head? = some 45) := by intro e; rw [e] at h; simp at h
    simp [mag, this]
  unfold pv
  rw [hm, h]
  simp only [Bool.false_eq_true, if_false]
end Go.Proofs.Qxb6618510aFmt.Pl
