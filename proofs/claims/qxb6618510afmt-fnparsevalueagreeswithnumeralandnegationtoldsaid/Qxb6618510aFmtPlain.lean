/-
  The plain functions of ParseValue and their laws: no Go in sight.
-/
import Derived.Lib.ParseIntB
namespace Go.Proofs.Qxb6618510aFmt.Pl
set_option linter.unusedSimpArgs false

def isD (c : UInt8) : Bool := decide (48 ≤ c.toNat ∧ c.toNat ≤ 57)
def stp (a : Nat) (c : UInt8) : Nat := a * 10 + (c.toNat - 48)
def dv (acc : Nat) (l : List UInt8) : Nat := l.foldl stp acc
theorem dv_nil (acc : Nat) : dv acc [] = acc := List.foldl_nil
theorem dv_cons (acc : Nat) (c : UInt8) (r : List UInt8) : dv acc (c :: r) = dv (acc * 10 + (c.toNat - 48)) r := by
  unfold dv; rw [List.foldl_cons]; rfl
def allD (l : List UInt8) : Bool := l.all isD
def mag (l : List UInt8) : List UInt8 := if l.head? = some 45 then l.tail else l
def neg (l : List UInt8) : Bool := l.head? == some 45

/-- ParseValue, as a plain function of the bytes. -/
def pv (l : List UInt8) : Option Int :=
  if mag l = [] ∨ allD (mag l) = false then none
  else if neg l = true then (if dv 0 (mag l) ≤ 9223372036854775808 then some (-(dv 0 (mag l) : Int)) else none)
  else if dv 0 (mag l) < 9223372036854775808 then some (dv 0 (mag l)) else none

theorem isD_true {c : UInt8} : isD c = true ↔ 48 ≤ c.toNat ∧ c.toNat ≤ 57 := by simp [isD]
theorem isD_false {c : UInt8} : isD c = false ↔ ¬ (48 ≤ c.toNat ∧ c.toNat ≤ 57) := by rw [← isD_true]; simp

theorem dv_ge (l : List UInt8) : ∀ acc, acc ≤ dv acc l := by
  induction l with
  | nil => intro acc; simp [dv_nil, dv_cons]
  | cons c r ih => intro acc; have := ih (acc * 10 + (c.toNat - 48)); simp only [dv_cons]; omega

theorem dv_snoc (l : List UInt8) (c : UInt8) : ∀ acc, dv acc (l ++ [c]) = dv acc l * 10 + (c.toNat - 48) := by
  induction l with
  | nil => intro acc; simp [dv_nil, dv_cons]
  | cons a r ih => intro acc; simp only [List.cons_append, dv_cons]; exact ih _

theorem allD_snoc (l : List UInt8) (c : UInt8) : allD (l ++ [c]) = (allD l && isD c) := by simp [allD]
theorem allD_cons (c : UInt8) (l : List UInt8) : allD (c :: l) = (isD c && allD l) := by simp [allD]

theorem dv_lt (l : List UInt8) : ∀ acc, allD l = true → dv acc l < (acc + 1) * 10 ^ l.length := by
  induction l with
  | nil => intro acc _; simp [dv_nil]
  | cons c r ih =>
    intro acc h
    rw [allD_cons, Bool.and_eq_true] at h
    have h1 := isD_true.1 h.1
    have h2 := ih (acc * 10 + (c.toNat - 48)) h.2
    simp only [dv_cons, List.length_cons]
    refine Nat.lt_of_lt_of_le h2 ?_
    rw [Nat.pow_succ, Nat.mul_comm (10 ^ r.length) 10, ← Nat.mul_assoc]
    exact Nat.mul_le_mul_right _ (by omega)

theorem dv_short (l : List UInt8) (h : allD l = true) (hl : l.length ≤ 18) : dv 0 l < 1000000000000000000 := by
  have h1 := dv_lt l 0 h
  have h2 : 10 ^ l.length ≤ 10 ^ 18 := Nat.pow_le_pow_right (by omega) hl
  have h3 : (10 : Nat) ^ 18 = 1000000000000000000 := by decide
  omega

/-- What ParseUint's loop answers, by 'allD' and 'dv'. -/
theorem uintM (l : List UInt8) : ∀ acc, acc ≤ 18446744073709551615 →
    match Lib.parseUintM 18446744073709551615 acc l with
    | .ok u => allD l = true ∧ u = dv acc l
    | .range => allD l = false ∨ 18446744073709551615 < dv acc l
    | _ => allD l = false := by
  induction l with
  | nil => intro acc _; simp [Lib.parseUintM, allD, dv_nil]
  | cons c r ih =>
    intro acc hacc
    rw [Lib.parseUintM, allD_cons, dv_cons]
    by_cases h : 48 ≤ c.toNat ∧ c.toNat ≤ 57
    · rw [if_pos h, isD_true.2 h]
      have hge := dv_ge r (acc * 10 + (c.toNat - 48))
      by_cases h1 : 1844674407370955162 ≤ acc
      · rw [if_pos h1]; right; omega
      · rw [if_neg h1]
        by_cases h2 : 18446744073709551615 < acc * 10 + (c.toNat - 48)
        · rw [if_pos h2]; right; omega
        · rw [if_neg h2, Bool.true_and]
          exact ih _ (by omega)
    · rw [if_neg h, isD_false.2 h]; rfl

theorem pow64 : (2 : Nat) ^ 64 - 1 = 18446744073709551615 := by decide
theorem pow63 : (2 : Nat) ^ (64 - 1) = 9223372036854775808 := by decide

/-- Does it start with a digit? -/
def swd (l : List UInt8) : Bool := match l with | [] => false | c :: _ => isD c

theorem pv_none_of_swd (l : List UInt8) (h : swd (mag l) = false) : pv l = none := by
  unfold pv
  rw [if_pos]
  cases hm : mag l with
  | nil => exact Or.inl rfl
  | cons c r => right; rw [hm] at h; rw [allD_cons]; simp only [swd] at h; rw [h]; rfl

theorem strip (c : UInt8) (r : List UInt8) (h : swd (mag (c :: r)) = true) : (if c.toNat = 43 ∨ c.toNat = 45 then r else c :: r) = mag (c :: r) := by
  by_cases h45 : c = 45
  · subst h45; simp [mag]
  · have hm : mag (c :: r) = c :: r := by simp [mag, h45]
    rw [hm] at h ⊢
    simp only [swd] at h
    have := isD_true.1 h
    rw [if_neg (by omega)]

theorem neg_cons (c : UInt8) (r : List UInt8) : neg (c :: r) = decide (c.toNat = 45) := by
  simp only [neg, List.head?_cons]
  rw [Bool.eq_iff_iff]
  simp only [beq_iff_eq, Option.some.injEq, decide_eq_true_eq]
  constructor
  · rintro rfl; rfl
  · intro h; exact UInt8.toNat_inj.1 h

theorem mag_ne (l : List UInt8) (h : swd (mag l) = true) : mag l ≠ [] := by
  intro e; rw [e] at h; cases h

/-- ParseInt at base 10 and 64 bits, where what stands behind a minus begins with a digit. -/
theorem parse_pv (l : List UInt8) (h : swd (mag l) = true) :
    match Lib.parseIntB 64 l with
    | .ok v => pv l = some v
    | .range => pv l = none
    | _ => pv l = none := by
  cases l with
  | nil => cases h
  | cons c r =>
    have hs := strip c r h
    have hn := neg_cons c r
    have hne := mag_ne _ h
    unfold Lib.parseIntB
    dsimp only
    rw [hs]
    unfold Lib.parseUintB
    rw [if_neg hne, pow64, pow63]
    have hu := uintM (mag (c :: r)) 0 (by omega)
    unfold pv
    rw [hn]
    generalize mag (c :: r) = m at *
    cases hp : Lib.parseUintM 18446744073709551615 0 m with
    | range =>
      rw [hp] at hu; dsimp only at hu ⊢
      rcases hu with hu | hu
      · rw [if_pos (Or.inr hu)]
      · by_cases ha : allD m = false
        · rw [if_pos (Or.inr ha)]
        · rw [if_neg (show ¬ (m = [] ∨ allD m = false) by simp [hne, ha])]
          by_cases h45 : c.toNat = 45
          · simp only [h45, decide_true, if_true]; rw [if_neg (by omega)]
          · simp only [h45, decide_false, Bool.false_eq_true, if_false]; rw [if_neg (by omega)]
    | ok u =>
      rw [hp] at hu; dsimp only at hu ⊢
      obtain ⟨ha, rfl⟩ := hu
      rw [if_neg (show ¬ (m = [] ∨ allD m = false) by simp [hne, ha])]
      by_cases h45 : c.toNat = 45
      · simp only [h45, decide_true, if_true, not_true_eq_false, false_and, if_false, true_and]
        by_cases hb : 9223372036854775808 < dv 0 m
        · rw [if_pos hb]; dsimp only; rw [if_neg (by omega)]
        · rw [if_neg hb]; dsimp only; rw [if_pos (by omega)]
      · simp only [h45, decide_false, Bool.false_eq_true, if_false, not_false_eq_true, true_and, false_and]
        by_cases hb : 9223372036854775808 ≤ dv 0 m
        · rw [if_pos hb]; dsimp only; rw [if_neg (by omega)]
        · rw [if_neg hb]; dsimp only; rw [if_pos (by omega)]
    | _ => rw [hp] at hu; dsimp only at hu ⊢; rw [if_pos (Or.inr hu)]

theorem pv_short (l : List UInt8) (h0 : mag l ≠ []) (ha : allD (mag l) = true) (hl : (mag l).length ≤ 18) : pv l = some (if neg l = true then -(dv 0 (mag l) : Int) else dv 0 (mag l)) := by
  have := dv_short _ ha hl
  unfold pv
  rw [if_neg (by simp [h0, ha])]
  split
  · rw [if_pos (by omega)]
  · rw [if_pos (by omega)]

-- the appended digit
theorem mag_snoc (l : List UInt8) (d : UInt8) (hd : isD d = true) : mag (l ++ [d]) = mag l ++ [d] := by
  have h := isD_true.1 hd
  cases l with
  | nil =>
    have : d ≠ 45 := by rintro rfl; simp at h
    simp [mag, this]
  | cons c r =>
    by_cases h45 : c = 45
    · subst h45; simp [mag]
    · simp [mag, h45]

theorem neg_snoc (l : List UInt8) (d : UInt8) (hd : isD d = true) : neg (l ++ [d]) = neg l := by
  have h := isD_true.1 hd
  cases l with
  | nil =>
    have : d ≠ 45 := by rintro rfl; simp at h
    simp [neg, this]
  | cons c r => simp [neg]

theorem pv_snoc_bad (l : List UInt8) (d : UInt8) (hd : isD d = false) : pv (l ++ [d]) = none := by
  unfold pv
  rw [if_pos]
  cases l with
  | nil =>
    by_cases h : d = 45
    · subst h; left; simp [mag]
    · right; simp [mag, h, allD, hd]
  | cons c r =>
    right
    by_cases h45 : c = 45
    · subst h45; simp [mag, allD, hd]
    · simp [mag, h45, allD, hd]

/-- Behind a digit, in terms of what stood before. -/
theorem pv_snoc (l : List UInt8) (d : UInt8) (hd : isD d = true) :
    pv (l ++ [d]) = if allD (mag l) = false then none
      else if neg l = true then (if dv 0 (mag l) * 10 + (d.toNat - 48) ≤ 9223372036854775808 then some (-((dv 0 (mag l) * 10 + (d.toNat - 48) : Nat) : Int)) else none)
      else if dv 0 (mag l) * 10 + (d.toNat - 48) < 9223372036854775808 then some ((dv 0 (mag l) * 10 + (d.toNat - 48) : Nat) : Int) else none := by
  have h1 := mag_snoc l d hd
  have h2 := neg_snoc l d hd
  have h3 := dv_snoc (mag l) d 0
  have h4 := allD_snoc (mag l) d
  rw [hd, Bool.and_true] at h4
  unfold pv
  rw [h1, h2, h3, h4]
  by_cases ha : allD (mag l) = false
  · rw [if_pos (Or.inr ha), if_pos ha]
  · rw [if_neg (by simp [ha]), if_neg ha]

theorem pv_empty : pv [] = none := by simp [pv, mag]
theorem pv_minus : pv [45] = none := by simp [pv, mag]

/-- s is "" : the digit itself. -/
theorem snoc_empty (d : UInt8) (hd : isD d = true) : pv ([] ++ [d]) = some ((d.toNat : Int) - 48) := by
  have h := isD_true.1 hd
  rw [pv_snoc [] d hd]
  have e1 : mag [] = [] := rfl
  have e2 : neg [] = false := rfl
  have e3 : allD [] = true := rfl
  have e4 : dv 0 [] = 0 := rfl
  rw [e1, e2, e3, e4, if_neg (by simp), if_neg (by simp), if_pos (by omega)]
  congr 1; omega
theorem snoc_minus (d : UInt8) (hd : isD d = true) : pv ([45] ++ [d]) = some (-((d.toNat : Int) - 48)) := by
  have h := isD_true.1 hd
  rw [pv_snoc [45] d hd]
  have e1 : mag [45] = [] := by simp [mag]
  have e2 : neg [45] = true := by simp [neg]
  have e3 : allD [] = true := rfl
  have e4 : dv 0 [] = 0 := rfl
  rw [e1, e2, e3, e4, if_neg (by simp), if_pos rfl, if_pos (by omega)]
  congr 1; omega

/-- What was refused stays refused. -/
theorem snoc_none (l : List UInt8) (d : UInt8) (hd : isD d = true) (h : pv l = none) (h1 : l ≠ []) (h2 : l ≠ [45]) : pv (l ++ [d]) = none := by
  have hm : mag l ≠ [] := by
    cases l with
    | nil => exact absurd rfl h1
    | cons c r =>
      by_cases h45 : c = 45
      · subst h45; intro e; simp [mag] at e; subst e; exact h2 rfl
      · simp [mag, h45]
  rw [pv_snoc l d hd]
  unfold pv at h
  by_cases ha : allD (mag l) = false
  · rw [if_pos ha]
  · rw [if_neg ha]
    rw [if_neg (by simp [hm, ha])] at h
    split
    · rename_i hn
      rw [if_pos hn] at h
      by_cases hb : dv 0 (mag l) ≤ 9223372036854775808
      · rw [if_pos hb] at h; cases h
      · rw [if_neg (by omega)]
    · rename_i hn
      rw [if_neg hn] at h
      by_cases hb : dv 0 (mag l) < 9223372036854775808
      · rw [if_pos hb] at h; cases h
      · rw [if_neg (by omega)]

/-- What was taken: the bounds. -/
theorem pv_some (l : List UInt8) (v : Int) (h : pv l = some v) : allD (mag l) = true ∧ l ≠ [] ∧ l ≠ [45] ∧ ((neg l = true ∧ v = -(dv 0 (mag l) : Int) ∧ dv 0 (mag l) ≤ 9223372036854775808) ∨ (neg l = false ∧ v = dv 0 (mag l) ∧ dv 0 (mag l) < 9223372036854775808)) := by
  have e1 : l ≠ [] := by rintro rfl; rw [pv_empty] at h; cases h
  have e2 : l ≠ [45] := by rintro rfl; rw [pv_minus] at h; cases h
  unfold pv at h
  by_cases ha : mag l = [] ∨ allD (mag l) = false
  · rw [if_pos ha] at h; cases h
  · rw [if_neg ha] at h
    have ha' : allD (mag l) = true := by
      cases hx : allD (mag l) with
      | true => rfl
      | false => exact absurd (Or.inr hx) ha
    refine ⟨ha', e1, e2, ?_⟩
    by_cases hn : neg l = true
    · rw [if_pos hn] at h
      by_cases hb : dv 0 (mag l) ≤ 9223372036854775808
      · rw [if_pos hb] at h; left; exact ⟨hn, by simpa using h.symm, hb⟩
      · rw [if_neg hb] at h; cases h
    · rw [if_neg hn] at h
      by_cases hb : dv 0 (mag l) < 9223372036854775808
      · rw [if_pos hb] at h; right; exact ⟨by simpa using hn, by simpa using h.symm, hb⟩
      · rw [if_neg hb] at h; cases h

theorem snoc_some_neg (l : List UInt8) (d : UInt8) (hd : isD d = true) (v : Int) (h : pv l = some v) (hn : neg l = true) :
    pv (l ++ [d]) = if v < -922337203685477580 ∨ (v = -922337203685477580 ∧ 8 < (d.toNat : Int) - 48) then none else some (v * 10 - ((d.toNat : Int) - 48)) := by
  have hh := isD_true.1 hd
  obtain ⟨ha, _, _, hv⟩ := pv_some l v h
  rw [pv_snoc l d hd, if_neg (by simp [ha]), if_pos hn]
  rcases hv with ⟨_, rfl, hb⟩ | ⟨hn', _⟩
  · by_cases hc : dv 0 (mag l) * 10 + (d.toNat - 48) ≤ 9223372036854775808
    · rw [if_pos hc, if_neg (by omega)]; congr 1; omega
    · rw [if_neg hc, if_pos (by omega)]
  · rw [hn] at hn'; cases hn'
theorem snoc_some_pos (l : List UInt8) (d : UInt8) (hd : isD d = true) (v : Int) (h : pv l = some v) (hn : neg l = false) :
    pv (l ++ [d]) = if 922337203685477580 < v ∨ (v = 922337203685477580 ∧ 7 < (d.toNat : Int) - 48) then none else some (v * 10 + ((d.toNat : Int) - 48)) := by
  have hh := isD_true.1 hd
  obtain ⟨ha, _, _, hv⟩ := pv_some l v h
  rw [pv_snoc l d hd, if_neg (by simp [ha]), if_neg (by simp [hn])]
  rcases hv with ⟨hn', _⟩ | ⟨_, rfl, hb⟩
  · rw [hn] at hn'; cases hn'
  · by_cases hc : dv 0 (mag l) * 10 + (d.toNat - 48) < 9223372036854775808
    · rw [if_pos hc, if_neg (by omega)]; congr 1; omega
    · rw [if_neg hc, if_pos (by omega)]

theorem pv_range (l : List UInt8) (v : Int) (h : pv l = some v) : -9223372036854775808 ≤ v ∧ v ≤ 9223372036854775807 := by
  obtain ⟨_, _, _, hv⟩ := pv_some l v h
  rcases hv with ⟨_, rfl, hb⟩ | ⟨_, rfl, hb⟩ <;> omega

end Go.Proofs.Qxb6618510aFmt.Pl
