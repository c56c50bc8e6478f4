/-
  errors.New, noAnswer and ZZnoAnswerOf: what each call does.
-/
import Derived.Test.Qxb6618597aFmtErrorf
import Derived.Test.Qxb6618597aFmtIs
import Derived.Deep.WholeRow
import Derived.BigQuiet
import Derived.Deep.QuietTactic
import Derived.Deep.RegionWith
namespace Go.Proofs.Qxb6618597aFmt
open Go.RowKit Go.Extern.Stop Go.Stop Go.Extern

theorem Tryf.size26 : (Tryf.prog.info? 26).map (·.size) = some 34 := by kernel_rfl
theorem Tryf.size22 : (Tryf.prog.info? 22).map (·.size) = some 32 := by kernel_rfl

set_option maxHeartbeats 400000 in
theorem new8 (r : ByteArray) (w : World) : Calls Tryf.prog 8 #[.string r] w fun e w' => e = .returned (.iface 34 (.pointer (some ⟨w.heap.size, 0, none⟩))) ∧ w' = w.alloc (.cells #[.string r] 36) := by
  go_enter Tryf.func8, Tryf.ntmps8
  go_wp2
  go_ret
  exact ⟨rfl, rfl⟩

set_option maxHeartbeats 400000 in
theorem noans9 (F : Interp) (C : Array Value) (q : ByteArray) (a r : Addr) (sa sr : ByteArray) (w : World) (hF : F.answers w.tape) (hq : C[0]? = some (.string q))
    (hg : w.cell? ⟨0, 0, none⟩ = some (.iface 34 (.pointer (some a)))) (ha : w.cell? a = some (.string sa)) (hr : w.cell? r = some (.string sr)) (h0l : 0 < w.heap.size) :
    Calls Tryf.prog 9 #[.agg C, .iface 34 (.pointer (some r))] w fun e w' =>
      ∃ N, e = .returned (.iface 44 (.pointer (some ⟨N, 0, none⟩))) ∧ Below w.heap.size w w' ∧ w'.cell? ⟨N, 1, none⟩ = some (.iface 34 (.pointer (some a))) := by
  go_enter Tryf.func9, Tryf.ntmps9
  go_wp2_with fail
  refine (errorf_any F a r sa sr q _ _ ?_ ?_ ?_ ?_ ?_ ?_).mono ?_
  · exact hF
  · go_simp
  · go_simp
  · go_simp
  · exact cell_later (((Below.refl _ w).alloc (Nat.le_refl _) _).alloc (by simp) _) ha
  · exact cell_later (((Below.refl _ w).alloc (Nat.le_refl _) _).alloc (by simp) _) hr
  rintro e w1 ⟨rfl, t, rfl⟩
  go_wp2
  go_ret
  refine ⟨_, rfl, ((((Below.refl _ w).alloc (Nat.le_refl _) _).alloc (by simp) _).alloc (by simp; omega) _).drew, ?_⟩
  go_simp

set_option maxHeartbeats 400000 in
/-- ZZnoAnswerOf: not nil; wraps the sentinel; does not wrap the reason. -/
theorem of6 (F : Interp) (C : Array Value) (q : ByteArray) (a : Addr) (sa r : ByteArray) (ca : Array Value) (ta : TypeId) (w : World) (hF : F.answers w.tape) (hq : C[0]? = some (.string q)) (hC : C.size = 34)
    (hg : w.cell? ⟨0, 0, none⟩ = some (.iface 34 (.pointer (some a)))) (ha : w.cell? a = some (.string sa)) (hab : w.heap[a.block]? = some (.cells ca ta (0, 0))) (hal : a.block < w.heap.size) (h0l : 0 < w.heap.size) :
    Calls Tryf.prog 6 #[.agg C, .string r] w fun e w' => e = .returned (.tuple #[.bool false, .bool true, .bool false]) ∧ Below w.heap.size w w' := by
  go_enter Tryf.func6, Tryf.ntmps6
  go_wp2_with fail
  refine (new8 r _).mono ?_
  rintro e w1 ⟨rfl, rfl⟩
  go_wp2_with (refine wpList_load_row rfl 26 _ rfl _ rfl 26 C (0, 0) _ ?_ Tryf.underlying26 rfl (by rw [hC]; exact Tryf.size26) ?_)
  · exact heap_alloc2_old w _ _
  have hB2 : Below w.heap.size w ((w.alloc (.cells C 26)).alloc (.cells #[.string r] 36)) := ((Below.refl _ w).alloc (Nat.le_refl _) _).alloc (by simp) _
  have hs2 : ((w.alloc (.cells C 26)).alloc (.cells #[.string r] 36)).heap.size = w.heap.size + 2 := by simp
  refine (noans9 F C q a ⟨w.heap.size + 1, 0, none⟩ sa r _ ?_ hq ?_ ?_ ?_ ?_).mono ?_
  · exact hF
  · exact cell_later hB2 hg
  · exact cell_later hB2 ha
  · go_simp
  · rw [hs2]; omega
  rintro e w3 ⟨N, rfl, hB3, hN⟩
  rw [hs2] at hB3
  have hB : Below w.heap.size w w3 := hB2.trans (hB3.mono (by omega))
  have hg3 : w3.cell? ⟨0, 0, none⟩ = some (.iface 34 (.pointer (some a))) := cell_later hB hg
  have ha3 : w3.heap[a.block]? = some (.cells ca ta (0, 0)) := by rw [hB.block _ hal]; exact hab
  have hr3 : w3.heap[w.heap.size + 1]? = some (.cells #[.string r] 36 (0, 0)) := by rw [hB3.block _ (by omega)]; exact heap_alloc2_new w _ _
  have hne : a ≠ ⟨w.heap.size + 1, 0, none⟩ := by
    intro e
    have e2 : a.block = w.heap.size + 1 := by rw [e]
    omega
  have hI1 := fun n => is_wrap_same N 0 a (w3.drewN n) hN
  have hI2 := fun n => is_wrap_other N 0 ⟨w.heap.size + 1, 0, none⟩ a ca #[.string r] ta 36 (w3.drewN n) hN hne ha3 hr3
  clear ha3 hr3 hne hN hB3 hB2 hs2 hab hg ha hq hC
  go_wp2_with fail
  go_quiet (first | (go_at_call_of 10 (Value.pointer (some a)); exact Calls.quiet_of_same (hI1 _)) | (go_at_call_of 10 (Value.pointer (some ({ block := w.heap.size + 1, off := 0 } : Addr))); exact Calls.quiet_of_same (hI2 _)))
  go_wp2
  go_ret3
  exact ⟨rfl, ⟨hB.os, hB.tape, hB.output, hB.size, hB.block⟩⟩
end Go.Proofs.Qxb6618597aFmt
