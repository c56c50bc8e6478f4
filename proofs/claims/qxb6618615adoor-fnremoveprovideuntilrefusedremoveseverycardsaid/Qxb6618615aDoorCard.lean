/-
  FnRemoveProvideUntilRefusedRemovesEvery: at every input the law answers true; the card, tied.
-/
import Derived.Test.Qxb6618615aDoorLaw
import Derived.Test.Qxb6618615aDoorTie
import Derived.Test.Qxb6618615aDoorCards
import Derived.ProofKit
import Derived.OpenShut
import Derived.WalkSmall
import Derived.Stop.LaidErr
import Derived.Deep.DeepLaidRun
import Derived.Deep.DeepHandedRow
import Derived.Deep.DeepWitnessRowRef
import Derived.JoinedCond
import Derived.SevenTiedAt
namespace Go.Proofs.Qxb6618615aDoor
open Go.ChangeShapes Go.WideShapes Go.ChangeAt Go.RowKit Go.Lib

theorem Tryd.own : ownKnob Tryd.prog.godebug = none := by kernel_rfl
theorem Tryd.laidOut : laidOutB Tryd.prog = true := by kernel_rfl

def textOfLaid (d : DataW Unit) : ByteArray := match d with
  | .iface _ (.ptr (.agg [.lit (.string l)])) => ⟨l.toArray⟩
  | _ => ⟨#[]⟩
def nameOfLaid (d : DataW Unit) : String := match d with
  | .iface n _ => n
  | _ => ""
def putCells (h : Array Obj) (g : Nat) (cs : Array Value) : Array Obj := h.modify g fun
  | .cells _ t fz => .cells cs t fz
  | o => o
def laidOver (N : Nat) (w0 : World) : World := { w0 with heap := putCells w0.heap 0 #[.iface 66 (.pointer (some ⟨N, 0, none⟩))] }
def laidInput : Input := ⟨#[.cells #[.string (textOfLaid Rows.laid_example_com_orrery_orrery_ErrNoAnchor)] 89], #[], []⟩

set_option maxRecDepth 1000000 in
theorem laid_start (os : Os) (args : Array Value) : laidMet Tryd.prog Rows.fnRemoveProvideUntilRefusedRemovesEveryRow.laid ((laidOver (World.settled Tryd.prog os).heap.size (World.holding Tryd.prog os laidInput)).forCall (fun _ _ => 0) ⟨#[], args, []⟩).memory :=
  laidMet_of_run3 12 (by kernel_rfl) (by kernel_rfl) (by kernel_rfl)

theorem star66 : nameOfLaid Rows.laid_example_com_orrery_orrery_ErrNoAnchor = String.ofList ['*'] ++ "errors.errorString" := by decide
theorem row66 (u : TypeId) (h : Tryd.prog.typeName? 3 u = some (nameOfLaid Rows.laid_example_com_orrery_orrery_ErrNoAnchor)) : u = 66 :=
  typeName_ptr_named (nm := "errors.errorString") (by kernel_rfl) (by kernel_rfl) (by decide) u (h.trans (congrArg some star66))

/-- One sentinel, with its cell. -/
theorem laid_sentinel_row {P : Program} {n nm : String} {text : List UInt8} {r : List (String × DataW Unit)} {W : World} {g : Nat} {ti tp te ts : TypeId} {ms : Array (String × TypeId)} {f : Field}
    (h : laidMet P ((n, .iface nm (.ptr (.agg [.lit (.string text)]))) :: r) W)
    (hg : P.globalNamed n = some g) (ht : (P.globals[g]?).map (·.type) = some ti) (hi : P.underlying ti = some (.interface ms)) (hrow : ∀ u, P.typeName? 3 u = some nm → u = tp)
    (hp : P.underlying tp = some (.pointer te)) (he : P.underlying te = some (.struct #[f])) (hft : f.type = ts) (hfo : f.offset = 0) (hs : P.underlying ts = some .string) (hc : P.cellsOf te = 1) (hcs : P.cellsOf ts = 1) :
    ∃ (a : Addr), W.var? P n = some #[.iface tp (.pointer (some a))] := by
  obtain ⟨ps, ⟨g0, t0, cs0, f0, p0, q0, hg0, ht0, hv0, hd0, _, e0⟩, _, hrows⟩ := h
  obtain rfl := Option.some.inj (hg.symm.trans hg0)
  obtain rfl := Option.some.inj (ht.symm.trans ht0)
  subst e0
  obtain ⟨l0⟩ := cs0
  have ok0 : ∀ u v, l0 = [.iface u v] → Value.okWide P W .any 0 u v := fun u v e => by
    subst e
    exact (hrows g 0 (by simp [MemPlace.row])).2 u v (by simpa using World.var?_cell hg0 hv0 0)
  obtain ⟨a0, s0, rfl, hc0, _, _, rfl⟩ := errorString_of_trod hi hrow hp he hft hfo hs hc hcs hd0 ok0
  exact ⟨a0, hv0⟩

set_option maxRecDepth 100000 in
set_option maxHeartbeats 1600000 in
theorem row_lifted (os : Os) (started : os.Started) (H : Type) (enc : TypeId × Value → H) (F : Stop.Interp) :
    ReturnsInHanded {} Tryd.checked os 3 .any ((OpenSpec.ofChange Rows.fnRemoveProvideUntilRefusedRemovesEverySpec).preRow enc Tryd.prog Tryd.f3 Rows.fnRemoveProvideUntilRefusedRemovesEveryRow.domain false Rows.fnRemoveProvideUntilRefusedRemovesEveryRow.laid) (((OpenSpec.ofChange Rows.fnRemoveProvideUntilRefusedRemovesEverySpec).at F).post enc Tryd.prog Tryd.f3 false true false false) := by
  refine returnsInHanded_of_row (C := Tryd.checked) (s := OpenSpec.ofChange Rows.fnRemoveProvideUntilRefusedRemovesEverySpec) Tryd.own started (by kernel_rfl) Tryd.func3
    (witness_row_atRef (enc := enc) (C := Tryd.checked) false (laidOver (World.settled Tryd.prog os).heap.size (World.holding Tryd.prog os laidInput)) #[.slice none 0 0, .agg #[.string ByteArray.empty, .string ByteArray.empty, .string ByteArray.empty, .string ByteArray.empty, .slice none 0 0, .slice none 0 0, .int .i64 0, .int .i64 0, .pointer none, .slice none 0 0]] rfl (by kernel_rfl) (by kernel_rfl) (by kernel_rfl)
      (OpenSpec.preRow_of_B rfl 8 (by kernel_rfl) (by kernel_rfl) (laid_start os _))) ?_
  intro W base args ds gs before hval0 hW _ _ hwt0 hL _ _
  have hval : ∀ (j : Nat) t v, Tryd.f3.params[j]? = some t → args[j]? = some v → Value.okWide Tryd.prog W .any base t v := hval0
  have hwt : (DataW.weightsEach Tryd.prog (Tryd.f3.params.toList ++ (OpenSpec.ofChange Rows.fnRemoveProvideUntilRefusedRemovesEverySpec).bare.plain.varTypes Tryd.prog) (ds ++ gs)).all (· ≤ reachBytes) = true := hwt0
  have hW' := hW
  obtain ⟨p, q, hA0, hV0, rfl, _, _⟩ := hW
  have hA : DataW.TrodAll enc Tryd.prog W 0 (fun _ => true) true Tryd.f3.params.toList args.toList ds p := hA0
  rw [Tryd.params3] at hA hval hwt
  obtain ⟨v0, v1, d0, d1, p0, p1, rfl, rfl, rfl, h0, h1⟩ := trodAll_two hA
  obtain ⟨e0, hv1⟩ := laid_sentinel_row (g := 0) hL (by kernel_rfl) (by kernel_rfl) Tryd.underlying39 row66 Tryd.underlying66 Tryd.underlying89 rfl rfl Tryd.underlying9 (by kernel_rfl) (by kernel_rfl)
  have hgt : (Tryd.prog.globals[0]?).map (·.type) = some 39 := by kernel_rfl
  have hgn : Tryd.prog.globalNamed (Rows.fnRemoveProvideUntilRefusedRemovesEverySpec.vars.headD "") = some 0 := by kernel_rfl
  have hv1' : W.var? Tryd.prog (Rows.fnRemoveProvideUntilRefusedRemovesEverySpec.vars.headD "") = some #[.iface 66 (.pointer (some e0))] := hv1
  have hV : DataW.TrodVars enc Tryd.prog W (fun _ => true) [Rows.fnRemoveProvideUntilRefusedRemovesEverySpec.vars.headD ""] gs q := hV0
  obtain ⟨rfl, rfl⟩ := hV.unique (vars_read1 enc hgn hgt Tryd.underlying39 hv1' trivial _)
  have hg1 : W.cell? ⟨0, 0, none⟩ = some (.iface 66 (.pointer (some e0))) := by simpa using World.var?_cell hgn hv1' 0
  have h0lt : 0 < W.heap.size := block_lt_of_cell hg1
  have l0 : light (d0.weights Tryd.prog 22) := fun n hn => by
    have := List.all_eq_true.1 hwt n (DataW.weights_mem_each (j := 0) (t := 22) (d := d0) rfl rfl n hn)
    simpa using this
  have l1 : light (d1.weights Tryd.prog 27) := fun n hn => by
    have := List.all_eq_true.1 hwt n (DataW.weights_mem_each (j := 1) (t := 27) (d := d1) rfl rfl n hn)
    simpa using this
  have o0 := okWide_slice Tryd.underlying22 (hval 0 22 v0 rfl rfl)
  have o1 := okWide_struct Tryd.underlying27 (hval 1 27 v1 rfl rfl)
  obtain ⟨a0, len, cap, rfl⟩ := o0
  obtain ⟨cs, rfl, _⟩ := o1
  have h0k := h0
  have h1k := h1
  obtain ⟨f0, h0⟩ := h0
  obtain ⟨f1, h1⟩ := h1
  obtain ⟨ts, v, e1, hts, hfs⟩ := open_toks h0 l0
  obtain ⟨t, hrow, hft⟩ := open_tok f1 _ _ h1 l1
  have e1' : Value.slice a0 len cap = v := (List.cons.inj e1).1
  subst e1'
  have lt0 : ∀ x ∈ p0, x.block < W.heap.size := DataW.trod_lt _ _ _ _ h0
  have lt1 : ∀ x ∈ p1, x.block < W.heap.size := DataW.trod_lt _ _ _ _ h1
  clear hA0 hV0 hval0 hwt0
  have hcall := law3 t ts _ cs.toList 66 e0 W hts hrow hfs hft hg1
  rw [Array.toArray_toList] at hcall
  refine hcall.mono ?_
  rintro e W' ⟨rfl, bel⟩
  refine ⟨_, rfl, _, _, _, [], p0 ++ p1, [.cell 0 0], hW', ?_, ?_, ?_, bel.frame _, fun h => by cases h⟩
  · exact trodAll_mk1 (shut_bool Tryd.underlying4 true)
  · exact trodAll_mk2 (Below.trod Tryd.laidOut (by kernel_rfl) (of_decide_eq_true (by kernel_rfl)) h0k bel lt0) (Below.trod Tryd.laidOut (by kernel_rfl) (of_decide_eq_true (by kernel_rfl)) h1k bel lt1)
  · exact vars_read1 enc hgn hgt Tryd.underlying39 (var?_below bel hgn h0lt hv1') trivial _

theorem row_holds : Rows.FnRemoveProvideUntilRefusedRemovesEverySaid :=
  OpenClaim.holds_of_cond 3 Tryd.f3 rfl rfl rfl rfl rfl rfl rfl ⟨rfl, rfl, rfl, rfl, rfl⟩ rfl rfl rfl rfl rfl (by kernel_rfl) Tryd.func3 (by kernel_rfl)
    (of_decide_eq_true (by kernel_rfl)) (by unfold Func.isWrapper; rw [if_neg (of_decide_eq_false (by kernel_rfl))]; exact ⟨rfl, rfl⟩)
    (fun os started H enc _ F0 => by rw [OpenClaim.pre_eq_preRow]; exact row_lifted os started H enc F0)

theorem card_holds : Rows.FnRemoveProvideUntilRefusedRemovesEveryCardSaid :=
  Claim7.holds_tied_plain_at .later [] [.sentinel] true (true, "0b7f492ed2744a6cf2726e07c2c3bcf0896d2ec8bf176793995852141483b511") false
    row_holds (fun _ h => by cases h) (by kernel_rfl) (fun _ h => by cases h) fnRemoveProvideUntilRefusedRemovesEvery_row_tie rfl ⟨rfl, rfl⟩ (by kernel_rfl) rfl
    (fun f fn hf hfn => by
      obtain rfl : f = 3 := Option.some.inj ((show Tryd.prog.funcNamed Rows.fnRemoveProvideUntilRefusedRemovesEveryRow.func = some 3 by kernel_rfl).symm.trans hf) |>.symm
      obtain rfl : fn = Tryd.f3 := (Option.some.inj (Tryd.func3.symm.trans hfn)).symm
      exact ⟨by kernel_rfl, fun j t ht => by
        rw [Tryd.params3] at ht
        have h3 : t = 22 ∨ t = 27 := by
          rcases j with _ | _ | j
          · exact .inl (by simpa using ht.symm)
          · exact .inr (by simpa using ht.symm)
          · simp at ht
        rcases h3 with rfl | rfl
        · exact (show Tryd.prog.wantsStandIn 22 = false by kernel_rfl)
        · exact (show Tryd.prog.wantsStandIn 27 = false by kernel_rfl)⟩)
    (by kernel_rfl)
end Go.Proofs.Qxb6618615aDoor
