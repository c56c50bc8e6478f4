/-
  A start in which the five listed variables hold what the rows list; what 'laid' says of the two sentinels' cells; the facts that both cards' frames ask.
-/
import Derived.Test.Qxb6618510aFmtRows
import Derived.ProofKit
import Derived.Stop.JoinedAt
import Derived.Stop.JoinedTold
import Derived.Stop.LaidErr
import Derived.Deep.DeepLaidRun
import Derived.Deep.DeepWitnessRef
import Derived.Below
namespace Go.Proofs.Qxb6618510aFmt
open Go.ChangeShapes Go.WideShapes Go.ChangeAt Go.RowKit Go.Kit
open Go.Extern.Stop Go.Stop Go.Extern

theorem Tryf.own : ownKnob Tryf.prog.godebug = none := by kernel_rfl
theorem Tryf.laidOut : laidOutB Tryf.pinned.checked.prog = true := by kernel_rfl
theorem Tryf.stops : Tryf.pinned.checked.prog.stops = ["fmt.errorf"] := by kernel_rfl
theorem Tryf.stopKnobs : Tryf.pinned.checked.prog.stopKnobs = [] := by kernel_rfl
theorem Tryf.quiet (os : Os) : Stop.quiet Tryf.pinned.checked.prog os := by
  intro k hk
  rw [Tryf.stopKnobs] at hk
  cases hk

/-- The cells of a row of numbers. -/
def numCells (d : DataW Unit) : Array Value := match d with
  | .agg l => (l.map fun | .lit (.int k n) => Value.int k n | _ => Value.nilIface).toArray
  | _ => #[]
def textOfLaid (d : DataW Unit) : ByteArray := match d with
  | .iface _ (.ptr (.agg [.lit (.string l)])) => ⟨l.toArray⟩
  | _ => ⟨#[]⟩
def putCells (h : Array Obj) (g : Nat) (cs : Array Value) : Array Obj := h.modify g fun
  | .cells _ t fz => .cells cs t fz
  | o => o
def laidOver (N : Nat) (w0 : World) : World :=
  { w0 with heap := putCells (putCells (putCells (putCells (putCells w0.heap 0 #[.iface 51 (.pointer (some ⟨N + 1, 0, none⟩))]) 1 #[.iface 51 (.pointer (some ⟨N, 0, none⟩))]) 2 (numCells Rows.laid_internal_strconv_uint64pow10)) 3 (numCells Rows.laid_math_bits_deBruijn32tab)) 4 (numCells Rows.laid_math_bits_deBruijn64tab) }
def laidInput : Input := ⟨#[.cells #[.string (textOfLaid Rows.laid_strconv_ErrRange)] 53, .cells #[.string (textOfLaid Rows.laid_strconv_ErrSyntax)] 53], #[], []⟩

set_option maxRecDepth 1000000 in
theorem laid_start (os : Os) (args : Array Value) : laidMet Tryf.prog Rows.fnParseValueAppendDigitRow.laid ((laidOver (World.settled Tryf.prog os).heap.size (World.holding Tryf.prog os laidInput)).forCall (fun _ _ => 0) ⟨#[], args, []⟩).memory :=
  laidMet_of_run3 12 (by kernel_rfl) (by kernel_rfl) (by kernel_rfl)

def nameOfLaid (d : DataW Unit) : String := match d with
  | .iface n _ => n
  | _ => ""
theorem star51 : nameOfLaid Rows.laid_strconv_ErrRange = String.ofList ['*'] ++ "errors.errorString" := by decide
theorem row51 (u : TypeId) (h : Tryf.prog.typeName? 3 u = some (nameOfLaid Rows.laid_strconv_ErrRange)) : u = 51 :=
  typeName_ptr_named (nm := "errors.errorString") (by kernel_rfl) (by kernel_rfl) (by decide) u (h.trans (congrArg some star51))

/-- What 'laid' says of the two sentinels: their variables hold interface values. -/
theorem laid_cells {W : World} (hL : laidMet Tryf.prog Rows.fnParseValueAppendDigitRow.laid W) :
    (∃ t p, W.cell? ⟨0, 0, none⟩ = some (.iface t p)) ∧ (∃ t p, W.cell? ⟨1, 0, none⟩ = some (.iface t p)) := by
  obtain ⟨a1, t1, hv1, _, _, _⟩ := laid_sentinel (g := 1) hL.tail.tail.tail (by kernel_rfl) (by kernel_rfl) Tryf.underlying24 row51 Tryf.underlying51 Tryf.underlying53 rfl rfl Tryf.underlying9 (by kernel_rfl) (by kernel_rfl)
  obtain ⟨a0, t0, hv0, _, _, _⟩ := laid_sentinel (g := 0) hL.tail.tail.tail.tail (by kernel_rfl) (by kernel_rfl) Tryf.underlying24 row51 Tryf.underlying51 Tryf.underlying53 rfl rfl Tryf.underlying9 (by kernel_rfl) (by kernel_rfl)
  have h0 := World.var?_cell (P := Tryf.prog) (g := 0) (by kernel_rfl) hv0 0
  have h1 := World.var?_cell (P := Tryf.prog) (g := 1) (by kernel_rfl) hv1 0
  exact ⟨⟨_, _, by simpa using h0⟩, ⟨_, _, by simpa using h1⟩⟩
end Go.Proofs.Qxb6618510aFmt
