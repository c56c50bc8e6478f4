/-
  FnNonceMarshalTextSpellsNonceAndKeepsOrder: at every input the law answers true.
-/
import Derived.Test.Qxb6616567aOpen
namespace Go.Proofs.Qxb6616567a
open Go.ChangeShapes Go.WideShapes Go.ChangeAt Go.RowKit Pl Go.Lib

set_option maxRecDepth 100000 in
theorem order_lifted (os : Os) (started : os.Started) (H : Type) (enc : TypeId × Value → H) :
    ReturnsInHanded {} Try.checked os 5 .any (Rows.fnNonceMarshalTextSpellsNonceAndKeepsOrderSpec.pre6 enc Try.prog Try.f5 Rows.fnNonceMarshalTextSpellsNonceAndKeepsOrderRow.domain false) (Rows.fnNonceMarshalTextSpellsNonceAndKeepsOrderSpec.post enc Try.prog Try.f5 false true false false) := by
  refine returnsInHanded_of_change (C := Try.checked) Try.own started (by kernel_rfl) Try.func5
    (ChangeSpec.witness6 (enc := enc) (C := Try.checked) false ⟨#[], #[.agg (List.replicate 16 (Value.int .u8 0)).toArray, .agg (List.replicate 16 (Value.int .u8 0)).toArray], []⟩ 8 (by kernel_rfl) (by kernel_rfl) (by kernel_rfl) (by kernel_rfl)) ?_
  intro W base args ds gs before hval0 hW _ _
  have hval : ∀ (j : Nat) t v, Try.f5.params[j]? = some t → args[j]? = some v → Value.okWide Try.prog W .any base t v := hval0
  have hW' := hW
  obtain ⟨p, q, hA0, hV, rfl, _, _⟩ := hW
  have hA : DataW.TrodAll enc Try.prog W 0 (fun _ => true) true Try.f5.params.toList args.toList ds p := hA0
  rw [Try.params5] at hA hval
  obtain ⟨v0, v1, d0, d1, p0, p1, rfl, rfl, rfl, h0, h1⟩ := trodAll_two hA
  obtain ⟨rfl, rfl⟩ := trodVars_none hV
  have h0k := h0
  have h1k := h1
  obtain ⟨xs, rfl, hxl, hxw, rfl⟩ := open_ints_array Try.underlying25 Try.underlying5 (by kernel_rfl) (by kernel_rfl) (hval 0 25 v0 rfl rfl) h0
  obtain ⟨ys, rfl, hyl, hyw, rfl⟩ := open_ints_array Try.underlying25 Try.underlying5 (by kernel_rfl) (by kernel_rfl) (hval 1 25 v1 rfl rfl) h1
  clear hA0 hval0
  have hcall := law5 _ _ _ _ (cells_of xs hxl hxw) (cells_of ys hyl hyw) W
  refine hcall.mono ?_
  rintro e W' ⟨rfl, bel⟩
  refine ⟨_, rfl, _, _, _, [], [], [], hW', ?_, ?_, ?_, bel.frame _, fun h => by cases h⟩
  · exact trodAll_mk1 (shut_bool Try.underlying4 true)
  · exact trodAll_mk2 (Below.trod Try.laidOut (by kernel_rfl) (of_decide_eq_true (by kernel_rfl)) h0k bel (fun x hx => by cases hx)) (Below.trod Try.laidOut (by kernel_rfl) (of_decide_eq_true (by kernel_rfl)) h1k bel (fun x hx => by cases hx))
  · rfl

theorem order_holds : Rows.FnNonceMarshalTextSpellsNonceAndKeepsOrderSaid :=
  OpenClaim.holds_of_wide 5 Try.f5 rfl rfl rfl rfl rfl rfl rfl ⟨rfl, rfl, rfl, rfl, rfl⟩ rfl rfl rfl rfl rfl (by kernel_rfl) Try.func5 (by kernel_rfl)
    (of_decide_eq_true (by kernel_rfl)) (by unfold Func.isWrapper; rw [if_neg (of_decide_eq_false (by kernel_rfl))]; exact ⟨rfl, rfl⟩)
    (fun os started H enc _ => order_lifted os started H enc)
end Go.Proofs.Qxb6616567a
