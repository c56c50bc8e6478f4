/-
  The start that is shown; what 'laid' gives; an array of bytes, by value, opened; the client's cells.
-/
import Derived.Test.Qxb6618597aFmtLaws
import Derived.ProofKit
import Derived.OpenShut
import Derived.WalkSmall
import Derived.Stop.JoinedAt
import Derived.Stop.JoinedTold
import Derived.Stop.LaidErr
import Derived.Deep.DeepLaidRun
import Derived.Deep.DeepWitnessRef
namespace Go.Proofs.Qxb6618597aFmt
open Go.ChangeShapes Go.WideShapes Go.ChangeAt Go.RowKit Go.Kit
open Go.Extern.Stop Go.Stop Go.Extern

theorem Tryf.own : ownKnob Tryf.prog.godebug = none := by kernel_rfl
theorem Tryf.laidOut : laidOutB Tryf.pinned.checked.prog = true := by kernel_rfl
theorem Tryf.stops : Tryf.pinned.checked.prog.stops = ["fmt.errorf"] := by kernel_rfl
theorem Tryf.stopKnobs : Tryf.pinned.checked.prog.stopKnobs = [] := by kernel_rfl
theorem Tryf.quiet (os : Os) : Stop.quiet Tryf.pinned.checked.prog os := by
  intro k hk
  rw [Tryf.stopKnobs] at hk
  cases hk

def textOfLaid (d : DataW Unit) : ByteArray := match d with
  | .iface _ (.ptr (.agg [.lit (.string l)])) => ⟨l.toArray⟩
  | _ => ⟨#[]⟩
def nameOfLaid (d : DataW Unit) : String := match d with
  | .iface n _ => n
  | _ => ""
def putCells (h : Array Obj) (g : Nat) (cs : Array Value) : Array Obj := h.modify g fun
  | .cells _ t fz => .cells cs t fz
  | o => o
def laidOver (N : Nat) (w0 : World) : World := { w0 with heap := putCells w0.heap 0 #[.iface 34 (.pointer (some ⟨N, 0, none⟩))] }
def laidInput : Input := ⟨#[.cells #[.string (textOfLaid Rows.laid_example_com_sluicegate_sluicegate_internal_wire_ErrNoAnswer)] 36], #[], []⟩

set_option maxRecDepth 1000000 in
theorem laid_start (os : Os) (args : Array Value) : laidMet Tryf.prog Rows.fnNoAnswerWrapsErrNoAnswerRow.laid ((laidOver (World.settled Tryf.prog os).heap.size (World.holding Tryf.prog os laidInput)).forCall (fun _ _ => 0) ⟨#[], args, []⟩).memory :=
  laidMet_of_run3 12 (by kernel_rfl) (by kernel_rfl) (by kernel_rfl)

theorem star34 : nameOfLaid Rows.laid_example_com_sluicegate_sluicegate_internal_wire_ErrNoAnswer = String.ofList ['*'] ++ "errors.errorString" := by decide
theorem row34 (u : TypeId) (h : Tryf.prog.typeName? 3 u = some (nameOfLaid Rows.laid_example_com_sluicegate_sluicegate_internal_wire_ErrNoAnswer)) : u = 34 :=
  typeName_ptr_named (nm := "errors.errorString") (by kernel_rfl) (by kernel_rfl) (by decide) u (h.trans (congrArg some star34))

/-- One sentinel, with its row of cells. -/
theorem laid_sentinel_row {P : Program} {n nm : String} {text : List UInt8} {r : List (String × DataW Unit)} {W : World} {g : Nat} {ti tp te ts : TypeId} {ms : Array (String × TypeId)} {f : Field}
    (h : laidMet P ((n, .iface nm (.ptr (.agg [.lit (.string text)]))) :: r) W)
    (hg : P.globalNamed n = some g) (ht : (P.globals[g]?).map (·.type) = some ti) (hi : P.underlying ti = some (.interface ms)) (hrow : ∀ u, P.typeName? 3 u = some nm → u = tp)
    (hp : P.underlying tp = some (.pointer te)) (he : P.underlying te = some (.struct #[f])) (hft : f.type = ts) (hfo : f.offset = 0) (hs : P.underlying ts = some .string) (hc : P.cellsOf te = 1) (hcs : P.cellsOf ts = 1) :
    ∃ (a : Addr) (s : ByteArray) (c : Array Value) (t : TypeId), W.var? P n = some #[.iface tp (.pointer (some a))] ∧ W.cell? a = some (.string s) ∧ W.heap[a.block]? = some (.cells c t (0, 0)) := by
  obtain ⟨ps, ⟨g0, t0, cs0, f0, p0, q0, hg0, ht0, hv0, hd0, _, e0⟩, _, hrows⟩ := h
  obtain rfl := Option.some.inj (hg.symm.trans hg0)
  obtain rfl := Option.some.inj (ht.symm.trans ht0)
  subst e0
  obtain ⟨l0⟩ := cs0
  have ok0 : ∀ u v, l0 = [.iface u v] → Value.okWide P W .any 0 u v := fun u v e => by
    subst e
    exact (hrows g 0 (by simp [MemPlace.row])).2 u v (by simpa using World.var?_cell hg0 hv0 0)
  obtain ⟨a0, s0, rfl, hc0, _, _, rfl⟩ := errorString_of_trod hi hrow hp he hft hfo hs hc hcs hd0 ok0
  obtain ⟨c0, t0, hb0⟩ := (hrows a0.block a0.off (by simp [MemPlace.row])).1
  exact ⟨a0, s0, c0, t0, hv0, hc0, hb0⟩

/-- An array of integers, by value: its cells are integers; it leads nowhere. -/
def intOfV : Value → Int | .int _ x => x | _ => 0
theorem open_ints_array {H : Type} {enc : TypeId × Value → H} {P : Program} {w : World} {base b0 : Nat} {rc : Reach} {sp : Nat → Bool} {held : Bool} {t e : TypeId} {n : Nat} {k : IntKind} {v : Value} {d : DataW H} {p : List MemPlace}
    (ht : P.underlying t = some (.array n e)) (he : P.underlying e = some (.int k)) (hce : P.cellsOf e = 1) (hct : P.cellsOf t = n)
    (hv : Value.okWide P w rc b0 t v) (h : DataW.Trod enc P w base sp held t v d p) :
    ∃ xs : List Int, v = .agg (xs.map (Value.int k)).toArray ∧ xs.length = n ∧ (∀ x ∈ xs, (Lit.int k x).wf = true) ∧ p = [] := by
  unfold Value.okWide at hv
  rw [ht] at hv
  obtain ⟨cs, rfl, hsz, _⟩ := hv
  obtain ⟨fuel, hf⟩ := h
  obtain ⟨xs, m, rfl, hx, hl, hn, hel⟩ := DataW.trod_array ht hf
  simp only [Value.cells] at hl hel
  rw [hce] at hel
  have hcl : cs.toList.length = n := by rw [hl, hct]
  have hone : ∀ i (hi : i < n), ∃ x, cs.toList[i]? = some (.int k x) ∧ xs[i]? = some ((DataW.lit (.int k x) : DataW H), []) ∧ (Lit.int k x).wf = true := by
    intro i hi
    have h1 := hel i hi
    have hxi : xs[i]? = some (xs[i]'(by omega)) := List.getElem?_eq_getElem (by omega)
    rw [hxi] at h1
    obtain ⟨x, e1, e2, e3⟩ := DataW.trod_int he h1
    have h2 : cs.toList[i]? = some (cs.toList[i]'(by omega)) := List.getElem?_eq_getElem (by omega)
    have h3 : (cs.toList.drop (i * 1)).take 1 = [cs.toList[i]'(by omega)] := by
      rw [Nat.mul_one, List.drop_eq_getElem_cons (by omega)]; rfl
    rw [h3] at e1
    refine ⟨x, by rw [h2]; exact congrArg some (List.cons.inj e1).1, by rw [hxi, e2], e3⟩
  refine ⟨cs.toList.map intOfV, ?_, by simpa using hcl, ?_, ?_⟩
  · congr 1
    apply Array.ext'
    rw [List.toList_toArray, List.map_map]
    apply List.ext_getElem?
    intro i
    rw [List.getElem?_map]
    by_cases hi : i < n
    · obtain ⟨x, h1, _, _⟩ := hone i hi
      rw [h1]; rfl
    · rw [List.getElem?_eq_none (by omega)]; rfl
  · intro x hx'
    obtain ⟨y, hy, rfl⟩ := List.mem_map.1 hx'
    obtain ⟨i, hi, rfl⟩ := List.getElem_of_mem hy
    obtain ⟨x, h1, _, h3⟩ := hone i (by omega)
    rw [List.getElem?_eq_getElem hi] at h1
    rw [Option.some.inj h1]
    exact h3
  · have h2 := (Prod.mk.inj hx).2
    rw [h2, List.flatMap_eq_nil_iff]
    intro y hy
    obtain ⟨i, hi, rfl⟩ := List.getElem_of_mem hy
    obtain ⟨x, _, h1, _⟩ := hone i (by omega)
    rw [List.getElem?_eq_getElem hi] at h1
    rw [Option.some.inj h1]

/-- The client's cells. -/
def clientCells (a b : ByteArray) (xs : List Int) : Array Value := (Value.string a :: Value.string b :: xs.map (Value.int .u8)).toArray
theorem built_lit (a b : ByteArray) (x0 x1 x2 x3 x4 x5 x6 x7 x8 x9 x10 x11 x12 x13 x14 x15 x16 x17 x18 x19 x20 x21 x22 x23 x24 x25 x26 x27 x28 x29 x30 x31 : Int) :
    Tryf.prog.built 26 [(0, .string a), (1, .string b), (2, .agg ([x0, x1, x2, x3, x4, x5, x6, x7, x8, x9, x10, x11, x12, x13, x14, x15, x16, x17, x18, x19, x20, x21, x22, x23, x24, x25, x26, x27, x28, x29, x30, x31].map (Value.int .u8)).toArray)] = some (clientCells a b [x0, x1, x2, x3, x4, x5, x6, x7, x8, x9, x10, x11, x12, x13, x14, x15, x16, x17, x18, x19, x20, x21, x22, x23, x24, x25, x26, x27, x28, x29, x30, x31]) := by kernel_rfl
theorem built_any (a b : ByteArray) (xs : List Int) (h : xs.length = 32) :
    Tryf.prog.built 26 [(0, .string a), (1, .string b), (2, .agg (xs.map (Value.int .u8)).toArray)] = some (clientCells a b xs) := by
  match xs, h with
  | [x0, x1, x2, x3, x4, x5, x6, x7, x8, x9, x10, x11, x12, x13, x14, x15, x16, x17, x18, x19, x20, x21, x22, x23, x24, x25, x26, x27, x28, x29, x30, x31], _ => exact built_lit a b x0 x1 x2 x3 x4 x5 x6 x7 x8 x9 x10 x11 x12 x13 x14 x15 x16 x17 x18 x19 x20 x21 x22 x23 x24 x25 x26 x27 x28 x29 x30 x31
theorem client_size (a b : ByteArray) (xs : List Int) (h : xs.length = 32) : (clientCells a b xs).size = 34 := by
  simp [clientCells, h]
theorem client_one (a b : ByteArray) (xs : List Int) : (clientCells a b xs).all (·.oneCell') = true := by
  unfold clientCells
  rw [List.all_toArray]
  simp only [List.all_cons, List.all_map]
  simp [Value.oneCell']
end Go.Proofs.Qxb6618597aFmt
