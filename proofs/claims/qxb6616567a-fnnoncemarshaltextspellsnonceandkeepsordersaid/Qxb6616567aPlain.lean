/-
  The plain laws: two hexadecimal digits a byte keep the order. No Go in sight.
-/
import Derived.Lib.HexFns
namespace Go.Proofs.Qxb6616567a.Pl
open Go.Lib

theorem digit_small (d : Nat) (h : d < 10) : (Hx.digit d).toNat = 48 + d := by
  match d, h with
  | 0, _ => rfl
  | 1, _ => rfl
  | 2, _ => rfl
  | 3, _ => rfl
  | 4, _ => rfl
  | 5, _ => rfl
  | 6, _ => rfl
  | 7, _ => rfl
  | 8, _ => rfl
  | 9, _ => rfl
theorem digit_great (d : Nat) (h1 : 10 ≤ d) (h2 : d < 16) : (Hx.digit d).toNat = 87 + d := by
  have hd : d = 10 ∨ d = 11 ∨ d = 12 ∨ d = 13 ∨ d = 14 ∨ d = 15 := by omega
  rcases hd with rfl | rfl | rfl | rfl | rfl | rfl <;> rfl
theorem digit_lt (a b : Nat) (h : a < b) (hb : b < 16) : (Hx.digit a).toNat < (Hx.digit b).toNat := by
  by_cases ha : a < 10
  · rw [digit_small a ha]
    by_cases hb' : b < 10
    · rw [digit_small b hb']; omega
    · rw [digit_great b (by omega) hb]; omega
  · rw [digit_great a (by omega) (by omega), digit_great b (by omega) hb]; omega

/-- Bytewise order: -1, 0 or 1. -/
def cmpL : List UInt8 → List UInt8 → Int
  | [], [] => 0
  | [], _ :: _ => -1
  | _ :: _, [] => 1
  | a :: l, b :: r => if a.toNat < b.toNat then -1 else if b.toNat < a.toNat then 1 else cmpL l r

theorem cmp_encode (l : List UInt8) : ∀ r : List UInt8, l.length = r.length → cmpL (Hx.encode l) (Hx.encode r) = cmpL l r := by
  induction l with
  | nil =>
    intro r h
    cases r with
    | nil => rfl
    | cons b r => cases h
  | cons a l ih =>
    intro r h
    cases r with
    | nil => cases h
    | cons b r =>
      have hl : l.length = r.length := by simpa using h
      rw [Hx.encode_cons, Hx.encode_cons]
      simp only [cmpL]
      have ha := a.toNat_lt
      have hb := b.toNat_lt
      by_cases h1 : a.toNat < b.toNat
      · rw [if_pos h1]
        by_cases h2 : a.toNat / 16 < b.toNat / 16
        · rw [if_pos (digit_lt _ _ h2 (by omega))]
        · have h3 : a.toNat / 16 = b.toNat / 16 := by omega
          rw [h3, if_neg (Nat.lt_irrefl _), if_neg (Nat.lt_irrefl _), if_pos (digit_lt _ _ (by omega) (by omega))]
      · rw [if_neg h1]
        by_cases h4 : b.toNat < a.toNat
        · rw [if_pos h4]
          by_cases h2 : b.toNat / 16 < a.toNat / 16
          · have h5 := digit_lt _ _ h2 (by omega)
            rw [if_neg (by omega), if_pos h5]
          · have h3 : a.toNat / 16 = b.toNat / 16 := by omega
            have h5 := digit_lt (b.toNat % 16) (a.toNat % 16) (by omega) (by omega)
            rw [h3, if_neg (Nat.lt_irrefl _), if_neg (Nat.lt_irrefl _), if_neg (by omega), if_pos h5]
        · rw [if_neg h4]
          have h3 : a.toNat = b.toNat := by omega
          rw [h3, if_neg (Nat.lt_irrefl _), if_neg (Nat.lt_irrefl _), if_neg (Nat.lt_irrefl _), if_neg (Nat.lt_irrefl _)]
          exact ih r hl

/-- The first place where two lists of one length part decides. -/
theorem cmp_at (l r : List UInt8) (k : Nat) (hl : l.length = r.length) (hk : k < l.length) (hp : l.take k = r.take k) : cmpL l r = cmpL (l.drop k) (r.drop k) := by
  induction k generalizing l r with
  | zero => rfl
  | succ k ih =>
    cases l with
    | nil => simp at hk
    | cons a l =>
      cases r with
      | nil => cases hl
      | cons b r =>
        simp only [List.take_succ_cons, List.cons.injEq] at hp
        obtain ⟨rfl, hp⟩ := hp
        simp only [cmpL, Nat.lt_irrefl, if_false, List.drop_succ_cons]
        exact ih l r (by simpa using hl) (by simpa using hk) hp
theorem cmp_same (l : List UInt8) : cmpL l l = 0 := by
  induction l with
  | nil => rfl
  | cons a l ih => simp only [cmpL, Nat.lt_irrefl, if_false]; exact ih
theorem cmp_lt (l r : List UInt8) (k : Nat) (hl : l.length = r.length) (hk : k < l.length) (hp : l.take k = r.take k) (h : (l[k]'hk).toNat < (r[k]'(by omega)).toNat) : cmpL l r = -1 := by
  rw [cmp_at l r k hl hk hp, List.drop_eq_getElem_cons hk, List.drop_eq_getElem_cons (show k < r.length by omega)]
  simp only [cmpL]
  rw [if_pos h]
theorem cmp_gt (l r : List UInt8) (k : Nat) (hl : l.length = r.length) (hk : k < l.length) (hp : l.take k = r.take k) (h : (r[k]'(by omega)).toNat < (l[k]'hk).toNat) : cmpL l r = 1 := by
  rw [cmp_at l r k hl hk hp, List.drop_eq_getElem_cons hk, List.drop_eq_getElem_cons (show k < r.length by omega)]
  simp only [cmpL]
  rw [if_neg (by omega), if_pos h]

theorem encode_16 (l : List UInt8) (h : l.length = 16) : (Hx.encode l).length = 32 := by rw [Hx.encode_length]; omega
/-- The digits of the byte at i. -/
theorem encode_hi (l : List UInt8) (i : Nat) (h : i < l.length) : (Hx.encode l)[2 * i]'(by rw [Hx.encode_length]; omega) = Hx.digit ((l[i]).toNat / 16) := by
  have := (Hx.encode_at l i l[i] (List.getElem?_eq_getElem h)).1
  rw [List.getElem?_eq_getElem (by rw [Hx.encode_length]; omega)] at this
  exact Option.some.inj this
theorem encode_lo (l : List UInt8) (i : Nat) (h : i < l.length) : (Hx.encode l)[2 * i + 1]'(by rw [Hx.encode_length]; omega) = Hx.digit ((l[i]).toNat % 16) := by
  have := (Hx.encode_at l i l[i] (List.getElem?_eq_getElem h)).2
  rw [List.getElem?_eq_getElem (by rw [Hx.encode_length]; omega)] at this
  exact Option.some.inj this
/-- A digit that does not belong to the changed byte is as it was. -/
theorem encode_set (l : List UInt8) (i j : Nat) (v : UInt8) (hj : j < 2 * l.length) (h : j / 2 ≠ i) :
    (Hx.encode (l.set i v))[j]'(by rw [Hx.encode_length, List.length_set]; omega) = (Hx.encode l)[j]'(by rw [Hx.encode_length]; omega) := by
  have hk : j / 2 < l.length := by omega
  have hs : (l.set i v)[j / 2]'(by rw [List.length_set]; exact hk) = l[j / 2] := List.getElem_set_ne (fun e => h e.symm) _
  rcases Nat.mod_two_eq_zero_or_one j with e | e
  · have ej : j = 2 * (j / 2) := by omega
    have h1 := encode_hi (l.set i v) (j / 2) (by rw [List.length_set]; exact hk)
    have h2 := encode_hi l (j / 2) hk
    rw [hs] at h1
    simp only [← ej] at h1 h2
    rw [h1, h2]
  · have ej : j = 2 * (j / 2) + 1 := by omega
    have h1 := encode_lo (l.set i v) (j / 2) (by rw [List.length_set]; exact hk)
    have h2 := encode_lo l (j / 2) hk
    rw [hs] at h1
    simp only [← ej] at h1 h2
    rw [h1, h2]
end Go.Proofs.Qxb6616567a.Pl
