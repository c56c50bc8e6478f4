/-
  FnNoAnswerWrapsErrNoAnswer: at every input the law answers true; the card, told and tied.
-/
import Derived.Test.Qxb6618597aFmtLaid
import Derived.Test.Qxb6618597aFmtTie
import Derived.Test.Qxb6618597aFmtCards
namespace Go.Proofs.Qxb6618597aFmt
open Go.ChangeShapes Go.WideShapes Go.ChangeAt Go.RowKit Go.Kit
open Go.ChangeMaps (open_string shut_string)
open Go.Extern.Stop Go.Stop Go.Extern

set_option maxRecDepth 100000 in
set_option maxHeartbeats 1600000 in
theorem wraps_lifted (os : Os) (started : os.Started) (H : Type) (enc : TypeId × Value → H) :
    ReturnsInTold none {} Tryf.checked os 3 .any Input.okWide ((OpenSpec.ofChange Rows.fnNoAnswerWrapsErrNoAnswerSpec).preRow enc Tryf.prog Tryf.f3 [] false Rows.fnNoAnswerWrapsErrNoAnswerRow.laid) (fun F => ((OpenSpec.ofChange Rows.fnNoAnswerWrapsErrNoAnswerSpec).at F).post enc Tryf.prog Tryf.f3 false true false false) (aloneAtReturn Tryf.prog) nothingAlways := by
  refine returnsInTold_of_row (C := Tryf.checked) (s := OpenSpec.ofChange Rows.fnNoAnswerWrapsErrNoAnswerSpec) (by kernel_rfl) Tryf.own started (by kernel_rfl) Tryf.func3
    (OpenSpec.witness_stopped_atRef (enc := enc) (C := Tryf.checked) false (laidOver (World.settled Tryf.prog os).heap.size (World.holding Tryf.prog os laidInput)) #[.string ⟨#[]⟩, .string ⟨#[]⟩, .agg (List.replicate 32 (Value.int .u8 0)).toArray, .string ⟨#[]⟩] rfl (by kernel_rfl) (by kernel_rfl) (by kernel_rfl)
      (OpenSpec.preRow_of_B rfl 8 (by kernel_rfl) (by kernel_rfl) (laid_start os _))) ?_
  intro F W base args ds gs before _ hF hval0 hW _ _ _ hL _
  have hval : ∀ (j : Nat) t v, Tryf.f3.params[j]? = some t → args[j]? = some v → Value.okWide Tryf.prog W .any base t v := hval0
  have hW' := hW
  obtain ⟨p, q, hA0, hV0, rfl, _, _⟩ := hW
  have hA : DataW.TrodAll enc Tryf.prog W 0 (fun _ => true) true Tryf.f3.params.toList args.toList ds p := hA0
  rw [Tryf.params3] at hA hval
  obtain ⟨v0, v1, v2, v3, d0, d1, d2, d3, p0, p1, p2, p3, rfl, rfl, rfl, h0, h1, h2, h3⟩ := trodAll_four hA
  obtain ⟨a, rfl, rfl, rfl, wa⟩ := open_string Tryf.underlying9 (hval 0 9 v0 rfl rfl) h0
  obtain ⟨b, rfl, rfl, rfl, wb⟩ := open_string Tryf.underlying9 (hval 1 9 v1 rfl rfl) h1
  have h2k := h2
  obtain ⟨xs, rfl, hxl, _, rfl⟩ := open_ints_array Tryf.underlying22 Tryf.underlying5 (by kernel_rfl) (by kernel_rfl) (hval 2 22 v2 rfl rfl) h2
  obtain ⟨r, rfl, rfl, rfl, wr⟩ := open_string Tryf.underlying9 (hval 3 9 v3 rfl rfl) h3
  obtain ⟨e0, s0, ca, ta, hv1, hc1, hb1⟩ := laid_sentinel_row (g := 0) hL (by kernel_rfl) (by kernel_rfl) Tryf.underlying30 row34 Tryf.underlying34 Tryf.underlying36 rfl rfl Tryf.underlying9 (by kernel_rfl) (by kernel_rfl)
  have hgt : (Tryf.prog.globals[0]?).map (·.type) = some 30 := by kernel_rfl
  have hgn : Tryf.prog.globalNamed (Rows.fnNoAnswerWrapsErrNoAnswerSpec.vars.headD "") = some 0 := by kernel_rfl
  have hv1' : W.var? Tryf.prog (Rows.fnNoAnswerWrapsErrNoAnswerSpec.vars.headD "") = some #[.iface 34 (.pointer (some e0))] := hv1
  have hV : DataW.TrodVars enc Tryf.prog W (fun _ => true) [Rows.fnNoAnswerWrapsErrNoAnswerSpec.vars.headD ""] gs q := hV0
  obtain ⟨rfl, rfl⟩ := hV.unique (vars_read1 enc hgn hgt Tryf.underlying30 hv1' trivial _)
  clear hA0 hV0 hval0
  have hg1 : W.cell? ⟨0, 0, none⟩ = some (.iface 34 (.pointer (some e0))) := by simpa using World.var?_cell hgn hv1' 0
  have hlt1 : e0.block < W.heap.size := block_lt_of_cell hc1
  have h0lt : 0 < W.heap.size := block_lt_of_cell hg1
  have hcall : Calls Tryf.prog 3 #[.string a, .string b, .agg (xs.map (Value.int .u8)).toArray, .string r] W fun e w' => e = .returned (.bool true) ∧ Below W.heap.size W w' := by
    by_cases hs : a.size + b.size + r.size ≤ 1048576
    · exact law3 F.told a b r _ (clientCells a b xs) e0 s0 ca ta W hs hF (by simp [hxl]) (client_size a b xs hxl) rfl (client_one a b xs) (built_any a b xs hxl) hg1 hc1 hb1 hlt1 h0lt
    · exact law3_no a b r _ W wa wb wr (by omega) (by simp [hxl])
  refine hcall.mono ?_
  rintro e W' ⟨rfl, bel⟩
  refine ⟨_, rfl, _, _, _, [], [], [.cell 0 0], hW', ?_, ?_, ?_, bel.frame _, fun h => by cases h⟩
  · exact trodAll_mk1 (shut_bool Tryf.underlying4 true)
  · exact trodAll_mk4 (shut_string Tryf.underlying9 wa) (shut_string Tryf.underlying9 wb) (Below.trod Tryf.laidOut (by kernel_rfl) (of_decide_eq_true (by kernel_rfl)) h2k bel (fun x hx => by cases hx)) (shut_string Tryf.underlying9 wr)
  · exact vars_read1 enc hgn hgt Tryf.underlying30 (var?_below bel hgn h0lt hv1') trivial _

theorem wraps_told : Rows.FnNoAnswerWrapsErrNoAnswerToldSaid :=
  Claim7.holds_of_told_tied_any_at .later 3 Tryf.f3 "fmt.errorf" [] [] _ _ _ _ _ (by kernel_rfl) rfl rfl rfl Tryf.laidOut (by kernel_rfl) rfl ⟨rfl, rfl, rfl, rfl, rfl, rfl, rfl⟩ rfl rfl (by kernel_rfl) (by kernel_rfl) Tryf.func3 (by kernel_rfl)
    (of_decide_eq_true (by kernel_rfl)) (of_decide_eq_true (by kernel_rfl)) Tryf.stops.symm rfl Tryf.stopKnobs.symm (by kernel_rfl)
    (by kernel_rfl) (by kernel_rfl) (by kernel_rfl) (by kernel_rfl) (by kernel_rfl) (by kernel_rfl) (by kernel_rfl) (by kernel_rfl) (by kernel_rfl) rfl (by kernel_rfl) rfl rfl
    rfl rfl
    rfl (by kernel_rfl) (by kernel_rfl) (by kernel_rfl) (by decide) (by kernel_rfl) fnNoAnswerWrapsErrNoAnswer_row_tie
    (OpenClaim.moreEntering_of (by kernel_rfl) (by kernel_rfl) (by kernel_rfl) (by kernel_rfl) (by kernel_rfl) (by kernel_rfl) (by kernel_rfl) (by kernel_rfl) (by kernel_rfl) (by kernel_rfl))
    ⟨_, WideRow.started_initial, Tryf.quiet _⟩
    (fun os started _ H enc _ => wraps_lifted os started H enc)
end Go.Proofs.Qxb6618597aFmt
