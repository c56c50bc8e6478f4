/-
  fmt.Errorf at noAnswer's own format: the closed facts that the walk over the stopped front wants, and the contract.
-/
import Derived.Test.Qxb6618597aFmtRows
import Derived.Stop.CallBack
import Derived.Stop.IfaceNil
import Derived.Stop.FmtTextLaws
import Derived.WalkKit
import Derived.WalkSpells
import Derived.WalkLawsBesides
import Derived.RowKitTokens
namespace Go.Proofs.Qxb6618597aFmt
open Go.RowKit Go.Extern.Stop Go.Stop Go.Extern

theorem Tryf.call14 (args : Array Value) (w : World) : (callFunc 14 args).run Tryf.prog w = ((FmtStop.errorf #[9, 43] #[30] args).run Tryf.prog w).andThen fun v w' => .ok (.value v) w' :=
  run_callFunc_extern Tryf.func14 (by kernel_rfl) (by kernel_rfl) (by kernel_rfl) (by kernel_rfl) args w
theorem Tryf.guard (name : String) (w : World) : (FmtStop.guard name).run Tryf.prog w = .ok () w := by kernel_rfl
theorem Tryf.fmt0 : FmtStop.printed? ⟨#[37, 119, 32, 102, 114, 111, 109, 32, 37, 115, 58, 32, 37, 118]⟩ 3 = some [(0, 119, false), (1, 115, false), (2, 118, false)] := by kernel_rfl
theorem Tryf.fmt0r (w : World) : (FmtDoors.printed ⟨#[37, 119, 32, 102, 114, 111, 109, 32, 37, 115, 58, 32, 37, 118]⟩ 3).run Tryf.prog w = .ok [(0, 119, false), (1, 115, false), (2, 118, false)] w := by kernel_rfl
def Tryf.shape9 : List UInt8 := [12, 6, 0, 0, 0, 0, 0, 0, 0, 115, 116, 114, 105, 110, 103]
theorem Tryf.op9_115w (name : String) (x : ByteArray) (w : World) : (FmtStop.operand name true 115 false (.iface 9 (.string x))).run Tryf.prog w = .ok (Tryf.shape9, FmtStop.pack x.data.toList) w := by kernel_rfl
theorem Tryf.ptr34 (w : World) : (FmtStop.ptrTo "errors.errorString").run Tryf.prog w = .ok 34 w := by kernel_rfl
theorem Tryf.elem34 (w : World) : (elemOf 34).run Tryf.prog w = .ok 36 w := by kernel_rfl
theorem Tryf.isError34' (w : World) : (FmtDoors.textMethod 34 "Error").run Tryf.prog w = .ok true w := by kernel_rfl
theorem Tryf.ptr44 (w : World) : (FmtStop.ptrTo "fmt.wrapError").run Tryf.prog w = .ok 44 w := by kernel_rfl
theorem Tryf.elem44 (w : World) : (elemOf 44).run Tryf.prog w = .ok 81 w := by kernel_rfl
theorem Tryf.isError44' (w : World) : (FmtDoors.textMethod 44 "Error").run Tryf.prog w = .ok true w := by kernel_rfl

attribute [local go_sem] Tryf.call14 Tryf.guard Tryf.fmt0 Tryf.fmt0r Tryf.op9_115w Tryf.ptr34 Tryf.elem34 Tryf.isError34' Tryf.ptr44 Tryf.elem44 Tryf.isError44'

/-- An error of errors.New's make as an operand, under the verb w and under the verb v. -/
theorem Tryf.opPlain34_119w (name : String) (a : Addr) (s : ByteArray) (w : World) (hc : w.cell? a = some (.string s)) :
    ∃ sh, (FmtStop.operand name true 119 false (.iface 34 (.pointer (some a)))).run Tryf.prog w = .ok (sh, s.data.toList) w := by
  have h1 : ∃ nm, (typeStr 34).run Tryf.prog w = .ok nm w := ⟨String.ofList ['*'] ++ "errors.errorString", by kernel_rfl⟩
  obtain ⟨nm, h1⟩ := h1
  have d2 : Tryf.t34.desc = .pointer 36 := rfl
  have d3 : Tryf.t36.desc = .named "errors.errorString" 35 := rfl
  refine ⟨14 :: FmtStop.pack nm.toUTF8.data.toList, ?_⟩
  simp [FmtStop.operand, h1, d2, d3, run_load, hc]
theorem Tryf.opPlain34_118w (name : String) (a : Addr) (s : ByteArray) (w : World) (hc : w.cell? a = some (.string s)) :
    ∃ sh, (FmtStop.operand name true 118 false (.iface 34 (.pointer (some a)))).run Tryf.prog w = .ok (sh, s.data.toList) w := by
  have h1 : ∃ nm, (typeStr 34).run Tryf.prog w = .ok nm w := ⟨String.ofList ['*'] ++ "errors.errorString", by kernel_rfl⟩
  obtain ⟨nm, h1⟩ := h1
  have d2 : Tryf.t34.desc = .pointer 36 := rfl
  have d3 : Tryf.t36.desc = .named "errors.errorString" 35 := rfl
  refine ⟨14 :: FmtStop.pack nm.toUTF8.data.toList, ?_⟩
  simp [FmtStop.operand, h1, d2, d3, run_load, hc]

set_option maxHeartbeats 400000 in
theorem errorf_any (F : Interp) (a r : Addr) (sa sr q : ByteArray) (blk : Nat) (w : World) (hF : F.answers w.tape)
    (hc0 : w.cell? ⟨blk, 0, none⟩ = some (.iface 34 (.pointer (some a)))) (hc1 : w.cell? ⟨blk, 1, none⟩ = some (.iface 9 (.string q))) (hc2 : w.cell? ⟨blk, 2, none⟩ = some (.iface 34 (.pointer (some r))))
    (ha : w.cell? a = some (.string sa)) (hr : w.cell? r = some (.string sr)) :
    Calls Tryf.prog 11 #[.string ⟨#[37, 119, 32, 102, 114, 111, 109, 32, 37, 115, 58, 32, 37, 118]⟩, .slice (some ⟨blk, 0, none⟩) 3 3] w fun e w' =>
      e = .returned (.iface 44 (.pointer (some ⟨w.heap.size, 0, none⟩))) ∧ ∃ t : ByteArray, w' = (w.alloc (.cells #[.string t, .iface 34 (.pointer (some a))] 81)).drew := by
  have hF' := answers_open hF
  obtain ⟨sh1, hop1⟩ := Tryf.opPlain34_119w "fmt.errorf" a sa w ha
  obtain ⟨sh2, hop2⟩ := Tryf.opPlain34_118w "fmt.errorf" r sr w hr
  go_enter Tryf.func11, Tryf.ntmps11
  go_wp2
  go_ret
  exact ⟨rfl, _, rfl⟩
end Go.Proofs.Qxb6618597aFmt
