/-
  An array of bytes, by value, opened; its bytes; the facts that both rows' frames ask.
-/
import Derived.Test.Qxb6616567aLaw6
import Derived.ProofKit
import Derived.OpenShut
namespace Go.Proofs.Qxb6616567a
open Go.ChangeShapes Go.WideShapes Go.ChangeAt Go.RowKit Pl Go.Lib

theorem Try.own : ownKnob Try.prog.godebug = none := by kernel_rfl
theorem Try.laidOut : laidOutB Try.prog = true := by kernel_rfl

/-- An array of integers, by value: its cells are integers; it leads nowhere. -/
def intOfV : Value → Int | .int _ x => x | _ => 0
theorem open_ints_array {H : Type} {enc : TypeId × Value → H} {P : Program} {w : World} {base b0 : Nat} {rc : Reach} {sp : Nat → Bool} {held : Bool} {t e : TypeId} {n : Nat} {k : IntKind} {v : Value} {d : DataW H} {p : List MemPlace}
    (ht : P.underlying t = some (.array n e)) (he : P.underlying e = some (.int k)) (hce : P.cellsOf e = 1) (hct : P.cellsOf t = n)
    (hv : Value.okWide P w rc b0 t v) (h : DataW.Trod enc P w base sp held t v d p) :
    ∃ xs : List Int, v = .agg (xs.map (Value.int k)).toArray ∧ xs.length = n ∧ (∀ x ∈ xs, (Lit.int k x).wf = true) ∧ p = [] := by
  unfold Value.okWide at hv
  rw [ht] at hv
  obtain ⟨cs, rfl, hsz, _⟩ := hv
  obtain ⟨fuel, hf⟩ := h
  obtain ⟨xs, m, rfl, hx, hl, hn, hel⟩ := DataW.trod_array ht hf
  simp only [Value.cells] at hl hel
  rw [hce] at hel
  have hcl : cs.toList.length = n := by rw [hl, hct]
  have hone : ∀ i (hi : i < n), ∃ x, cs.toList[i]? = some (.int k x) ∧ xs[i]? = some ((DataW.lit (.int k x) : DataW H), []) ∧ (Lit.int k x).wf = true := by
    intro i hi
    have h1 := hel i hi
    have hxi : xs[i]? = some (xs[i]'(by omega)) := List.getElem?_eq_getElem (by omega)
    rw [hxi] at h1
    obtain ⟨x, e1, e2, e3⟩ := DataW.trod_int he h1
    have h2 : cs.toList[i]? = some (cs.toList[i]'(by omega)) := List.getElem?_eq_getElem (by omega)
    have h3 : (cs.toList.drop (i * 1)).take 1 = [cs.toList[i]'(by omega)] := by
      rw [Nat.mul_one, List.drop_eq_getElem_cons (by omega)]; rfl
    rw [h3] at e1
    refine ⟨x, by rw [h2]; exact congrArg some (List.cons.inj e1).1, by rw [hxi, e2], e3⟩
  refine ⟨cs.toList.map intOfV, ?_, by simpa using hcl, ?_, ?_⟩
  · congr 1
    apply Array.ext'
    rw [List.toList_toArray, List.map_map]
    apply List.ext_getElem?
    intro i
    rw [List.getElem?_map]
    by_cases hi : i < n
    · obtain ⟨x, h1, _, _⟩ := hone i hi
      rw [h1]; rfl
    · rw [List.getElem?_eq_none (by omega)]; rfl
  · intro x hx'
    obtain ⟨y, hy, rfl⟩ := List.mem_map.1 hx'
    obtain ⟨i, hi, rfl⟩ := List.getElem_of_mem hy
    obtain ⟨x, h1, _, h3⟩ := hone i (by omega)
    rw [List.getElem?_eq_getElem hi] at h1
    rw [Option.some.inj h1]
    exact h3
  · have h2 := (Prod.mk.inj hx).2
    rw [h2, List.flatMap_eq_nil_iff]
    intro y hy
    obtain ⟨i, hi, rfl⟩ := List.getElem_of_mem hy
    obtain ⟨x, _, h1, _⟩ := hone i (by omega)
    rw [List.getElem?_eq_getElem hi] at h1
    rw [Option.some.inj h1]

/-- Its bytes. -/
def bytesOfInts (xs : List Int) : List UInt8 := xs.map fun x => UInt8.ofNat x.toNat
theorem byte_range {x : Int} (h : (Lit.int .u8 x).wf = true) : 0 ≤ x ∧ x ≤ 255 := by
  simp [Lit.wf, IntKind.min, IntKind.max, IntKind.signed, IntKind.bits] at h
  omega
theorem byte_back {x : Int} (h : (Lit.int .u8 x).wf = true) : ((UInt8.ofNat x.toNat).toNat : Int) = x := by
  have := byte_range h
  rw [UInt8.toNat_ofNat']; omega
theorem cells_of (xs : List Int) (hl : xs.length = 16) (hw : ∀ x ∈ xs, (Lit.int .u8 x).wf = true) : Cells16 (xs.map (Value.int .u8)).toArray (bytesOfInts xs) := by
  refine ⟨by simp [bytesOfInts, hl], by simp [hl], ?_⟩
  intro j hj
  have hj' : j < xs.length := by simpa [bytesOfInts] using hj
  have hb := byte_back (hw _ (List.getElem_mem hj'))
  rw [List.getElem?_toArray, List.getElem?_map, List.getElem?_eq_getElem hj']
  simp only [Option.map_some, bytesOfInts, List.getElem_map]
  rw [hb]
theorem one_of (xs : List Int) : ((xs.map (Value.int .u8)).toArray).all (·.oneCell') = true := by
  rw [List.all_toArray]
  simp [Value.oneCell']
end Go.Proofs.Qxb6616567a
