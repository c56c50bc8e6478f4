/-
  FnNonceMarshalTextChangesOnlyTheDigitsOfTheChangedByte: at every input the law answers true.
-/
import Derived.Test.Qxb6616567aOpen
namespace Go.Proofs.Qxb6616567a
open Go.ChangeShapes Go.WideShapes Go.ChangeAt Go.RowKit Pl Go.Lib

set_option maxRecDepth 100000 in
theorem change_lifted (os : Os) (started : os.Started) (H : Type) (enc : TypeId × Value → H) :
    ReturnsInHanded {} Try.checked os 6 .any (Rows.fnNonceMarshalTextChangesOnlyTheDigitsOfTheChangedByteSpec.pre6 enc Try.prog Try.f6 Rows.fnNonceMarshalTextChangesOnlyTheDigitsOfTheChangedByteRow.domain false) (Rows.fnNonceMarshalTextChangesOnlyTheDigitsOfTheChangedByteSpec.post enc Try.prog Try.f6 false true false false) := by
  refine returnsInHanded_of_change (C := Try.checked) Try.own started (by kernel_rfl) Try.func6
    (ChangeSpec.witness6 (enc := enc) (C := Try.checked) false ⟨#[], #[.agg (List.replicate 16 (Value.int .u8 0)).toArray, .int .i64 0, .int .u8 0], []⟩ 8 (by kernel_rfl) (by kernel_rfl) (by kernel_rfl) (by kernel_rfl)) ?_
  intro W base args ds gs before hval0 hW _ _
  have hval : ∀ (j : Nat) t v, Try.f6.params[j]? = some t → args[j]? = some v → Value.okWide Try.prog W .any base t v := hval0
  have hW' := hW
  obtain ⟨p, q, hA0, hV, rfl, _, _⟩ := hW
  have hA : DataW.TrodAll enc Try.prog W 0 (fun _ => true) true Try.f6.params.toList args.toList ds p := hA0
  rw [Try.params6] at hA hval
  obtain ⟨v0, v1, v2, d0, d1, d2, p0, p1, p2, rfl, rfl, rfl, h0, h1, h2⟩ := trodAll_three hA
  obtain ⟨rfl, rfl⟩ := trodVars_none hV
  have h0k := h0
  obtain ⟨xs, rfl, hxl, hxw, rfl⟩ := open_ints_array Try.underlying25 Try.underlying5 (by kernel_rfl) (by kernel_rfl) (hval 0 25 v0 rfl rfl) h0
  obtain ⟨i, rfl, rfl, rfl, wi⟩ := open_int Try.underlying3 (hval 1 3 v1 rfl rfl) h1
  obtain ⟨x, rfl, rfl, rfl, wx⟩ := open_int Try.underlying5 (hval 2 5 v2 rfl rfl) h2
  clear hA0 hval0
  have hcall : Calls Try.prog 6 #[.agg (xs.map (Value.int .u8)).toArray, .int .i64 i, .int .u8 x] W fun e w' => e = .returned (.bool true) ∧ Below W.heap.size W w' := by
    by_cases hi : i < 0 ∨ 15 < i
    · exact law6_out _ i x W hi
    · have h := law6_in _ _ i.toNat (UInt8.ofNat x.toNat) (cells_of xs hxl hxw) (one_of xs) (by omega) W
      rw [byte_back wx, show ((i.toNat : Nat) : Int) = i from by omega] at h
      exact h
  refine hcall.mono ?_
  rintro e W' ⟨rfl, bel⟩
  refine ⟨_, rfl, _, _, _, [], [], [], hW', ?_, ?_, ?_, bel.frame _, fun h => by cases h⟩
  · exact trodAll_mk1 (shut_bool Try.underlying4 true)
  · exact trodAll_mk3 (Below.trod Try.laidOut (by kernel_rfl) (of_decide_eq_true (by kernel_rfl)) h0k bel (fun x hx => by cases hx)) (shut_int Try.underlying3 wi) (shut_int Try.underlying5 wx)
  · rfl

theorem change_holds : Rows.FnNonceMarshalTextChangesOnlyTheDigitsOfTheChangedByteSaid :=
  OpenClaim.holds_of_wide 6 Try.f6 rfl rfl rfl rfl rfl rfl rfl ⟨rfl, rfl, rfl, rfl, rfl⟩ rfl rfl rfl rfl rfl (by kernel_rfl) Try.func6 (by kernel_rfl)
    (of_decide_eq_true (by kernel_rfl)) (by unfold Func.isWrapper; rw [if_neg (of_decide_eq_false (by kernel_rfl))]; exact ⟨rfl, rfl⟩)
    (fun os started H enc _ => change_lifted os started H enc)
end Go.Proofs.Qxb6616567a
