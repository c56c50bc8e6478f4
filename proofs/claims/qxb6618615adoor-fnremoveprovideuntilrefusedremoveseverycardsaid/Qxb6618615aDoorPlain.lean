/-
  Counting and filtering, no Go in sight.
-/
import Derived.Test.Qxb6618615aDoorFind
namespace Go.Proofs.Qxb6618615aDoor
set_option linter.unusedVariables false
set_option linter.unusedSimpArgs false

def many (t : List Lvl) (ts : List (List Lvl)) : Nat := (ts.filter fun s => alike t s).length
def rest (t : List Lvl) (ts : List (List Lvl)) : List (List Lvl) := ts.filter fun s => !alike t s
theorem alike_comm (x y : List Lvl) : alike x y = alike y x := by
  rw [Bool.eq_iff_iff, alike_iff, alike_iff]
  exact ⟨Eq.symm, Eq.symm⟩
theorem split_at (ts : List (List Lvl)) (i : Nat) (h : i < ts.length) : ts = ts.take i ++ ts[i]'h :: ts.drop (i + 1) := by
  rw [← List.drop_eq_getElem_cons h, List.take_append_drop]
theorem many_append (t : List Lvl) (a b : List (List Lvl)) : many t (a ++ b) = many t a + many t b := by simp [many]
theorem rest_append (t : List Lvl) (a b : List (List Lvl)) : rest t (a ++ b) = rest t a ++ rest t b := by simp [rest]
theorem many_yes {t s : List Lvl} (h : alike t s = true) (r : List (List Lvl)) : many t (s :: r) = many t r + 1 := by simp [many, h]
theorem many_no {t s : List Lvl} (h : alike t s = false) (r : List (List Lvl)) : many t (s :: r) = many t r := by simp [many, h]
theorem rest_yes {t s : List Lvl} (h : alike t s = true) (r : List (List Lvl)) : rest t (s :: r) = rest t r := by simp [rest, h]
theorem rest_no {t s : List Lvl} (h : alike t s = false) (r : List (List Lvl)) : rest t (s :: r) = s :: rest t r := by simp [rest, h]
theorem many_le (t : List Lvl) (ts : List (List Lvl)) : many t ts ≤ ts.length := List.length_filter_le _ _
theorem many_erase (t : List Lvl) (ts : List (List Lvl)) (i : Nat) (h : i < ts.length) (ha : alike t (ts[i]'h) = true) : many t (ts.eraseIdx i) + 1 = many t ts := by
  have e := split_at ts i h
  rw [List.eraseIdx_eq_take_drop_succ, many_append]
  conv => rhs; rw [e, many_append, many_yes ha]
  omega
theorem rest_erase (t : List Lvl) (ts : List (List Lvl)) (i : Nat) (h : i < ts.length) (ha : alike t (ts[i]'h) = true) : rest t (ts.eraseIdx i) = rest t ts := by
  have e := split_at ts i h
  rw [List.eraseIdx_eq_take_drop_succ, rest_append]
  conv => rhs; rw [e, rest_append, rest_yes ha]
theorem none_found (t : List Lvl) (ts : List (List Lvl)) (h : ∀ j (hj : j < ts.length), alike t (ts[j]'hj) = false) : many t ts = 0 ∧ rest t ts = ts := by
  have h' : ∀ s ∈ ts, alike t s = false := fun s hs => by
    obtain ⟨j, hj, rfl⟩ := List.getElem_of_mem hs
    exact h j hj
  constructor
  · rw [many, List.length_eq_zero_iff, List.filter_eq_nil_iff]
    intro s hs
    simp [h' s hs]
  · rw [rest, List.filter_eq_self]
    intro s hs
    simp [h' s hs]
theorem many_take (t : List Lvl) (ts : List (List Lvl)) (k : Nat) (h : k < ts.length) : many t (ts.take (k + 1)) = many t (ts.take k) + if alike t (ts[k]'h) = true then 1 else 0 := by
  rw [List.take_succ_eq_append_getElem h, many_append]
  cases ha : alike t (ts[k]'h) <;> simp [many, ha]
theorem rest_take (t : List Lvl) (ts : List (List Lvl)) (k : Nat) (h : k < ts.length) : (rest t (ts.take (k + 1))).length = (rest t (ts.take k)).length + if alike t (ts[k]'h) = true then 0 else 1 := by
  rw [List.take_succ_eq_append_getElem h, rest_append]
  cases ha : alike t (ts[k]'h) <;> simp [rest, ha]
/-- What stays, at the place that the comparing comes to. -/
theorem rest_at (t : List Lvl) (ts : List (List Lvl)) (k : Nat) (h : k < ts.length) (ha : alike t (ts[k]'h) = false) : (rest t ts)[(rest t (ts.take k)).length]? = some (ts[k]'h) := by
  have e := split_at ts k h
  conv => lhs; lhs; rw [e, rest_append, rest_no ha]
  rw [List.getElem?_append_right (Nat.le_refl _)]
  simp
end Go.Proofs.Qxb6618615aDoor
