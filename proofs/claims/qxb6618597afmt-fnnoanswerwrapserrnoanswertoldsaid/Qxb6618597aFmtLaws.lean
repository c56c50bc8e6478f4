/-
  The two laws' own walks, over whatever 32 cells the key holds.
-/
import Derived.Test.Qxb6618597aFmtWalk
import Derived.Great.BuildSlice
namespace Go.Proofs.Qxb6618597aFmt
open Go.RowKit Go.Extern.Stop Go.Stop Go.Extern

theorem ret_bool {a b : Bool} (h : a = b) : Ending.returned (.bool a) = .returned (.bool b) := by rw [h]

set_option maxHeartbeats 400000 in
theorem bytes5 (a b r : ByteArray) (cs : Array Value) (w : World) (h : a.size + b.size + r.size ≤ 1048576) :
    Calls Tryf.prog 5 #[.string a, .string b, .agg cs, .string r] w fun e w' => e = .returned (.bool true) ∧ w' = w.alloc (.cells cs 22) := by
  go_enter Tryf.func5, Tryf.ntmps5
  go_wp2
  go_ret
  exact ⟨rfl, rfl⟩
set_option maxHeartbeats 400000 in
theorem bytes5_no (a b r : ByteArray) (cs : Array Value) (w : World) (ha : a.size ≤ maxLen) (hb : b.size ≤ maxLen) (hr : r.size ≤ maxLen) (h : 1048576 < a.size + b.size + r.size) :
    Calls Tryf.prog 5 #[.string a, .string b, .agg cs, .string r] w fun e w' => e = .returned (.bool false) ∧ w' = w.alloc (.cells cs 22) := by
  unfold maxLen at ha hb hr
  go_enter Tryf.func5, Tryf.ntmps5
  go_wp2
  all_goals go_ret
  all_goals exact ⟨rfl, rfl⟩

theorem heap_alloc3_new (w : World) (A B D : Obj) : (((w.alloc A).alloc B).alloc D).heap[w.heap.size + 1 + 1]? = some D := by
  have h := heap_alloc_last ((w.alloc A).alloc B) D
  have e : ((w.alloc A).alloc B).heap.size = w.heap.size + 1 + 1 := by simp
  rwa [e] at h
theorem setRow_alloc3 (w : World) (A B : Obj) (c c' : Array Value) (t : TypeId) : (((w.alloc A).alloc B).alloc (.cells c t)).setRow (w.heap.size + 1 + 1) c' = ((w.alloc A).alloc B).alloc (.cells c' t) := by
  have h := World.setRow_alloc_new ((w.alloc A).alloc B) c c' t
  have e : ((w.alloc A).alloc B).heap.size = w.heap.size + 1 + 1 := by simp
  rwa [e] at h

/-- The client's cells stored into the block that was made last. -/
theorem store26 {ops : Array Oper} {rest : List Oper} {a : Act} {Q : Exit → Act → World → Prop} {pos : String} {af : Array Edge} (w : World) (A B : Obj) (zs C : Array Value) (hC : C.size = 34) (hC1 : C.all (·.oneCell') = true)
    (hx : a.eval (.tmp 9) = .pointer (some ⟨w.heap.size + 1 + 1, 0, none⟩)) (hy : a.eval (.tmp 44) = .agg C) (hz : zs.size = 34)
    (h : wpList Tryf.prog ops Q rest (a.put none undef) (((w.alloc A).alloc B).alloc (.cells C 26))) :
    wpList Tryf.prog ops Q ({ dst := none, op := .store 26 (.tmp 9) (.tmp 44), type := 0, pos := pos, after := af, guard := none } :: rest) a (((w.alloc A).alloc B).alloc (.cells zs 26)) := by
  refine wpList_store_row rfl 26 (.tmp 9) (.tmp 44) rfl (w.heap.size + 1 + 1) C hx hy 26 zs (heap_alloc3_new w A B _) (by rw [hC]; exact Tryf.size26) (by rw [hC, hz]) hC1 ?_
  rw [setRow_alloc3]
  exact h
/-- .. and loaded whole. -/
theorem load26 {ops : Array Oper} {rest : List Oper} {a : Act} {Q : Exit → Act → World → Prop} {pos : String} {af : Array Edge} (w : World) (A B : Obj) (C : Array Value) (hC : C.size = 34)
    (hx : a.eval (.tmp 9) = .pointer (some ⟨w.heap.size + 1 + 1, 0, none⟩))
    (h : wpList Tryf.prog ops Q rest (a.put (some 46) (.agg C)) (((w.alloc A).alloc B).alloc (.cells C 26))) :
    wpList Tryf.prog ops Q ({ dst := some 46, op := .load 26 (.tmp 9), type := 26, pos := pos, after := af, guard := none } :: rest) a (((w.alloc A).alloc B).alloc (.cells C 26)) :=
  wpList_load_row rfl 26 (.tmp 9) rfl (w.heap.size + 1 + 1) hx 26 C (0, 0) _ (heap_alloc3_new w A B _) Tryf.underlying26 rfl (by rw [hC]; exact Tryf.size26) h

set_option maxHeartbeats 400000 in
theorem law3 (F : Interp) (a b r : ByteArray) (cs C : Array Value) (e0 : Addr) (s0 : ByteArray) (ca : Array Value) (ta : TypeId) (w : World) (h : a.size + b.size + r.size ≤ 1048576)
    (hF : F.answers w.tape) (hcs : cs.size = 32) (hC : C.size = 34) (hC0 : C[0]? = some (.string a)) (hC1 : C.all (·.oneCell') = true)
    (hbt : Tryf.prog.built 26 [(0, .string a), (1, .string b), (2, .agg cs)] = some C)
    (hg : w.cell? ⟨0, 0, none⟩ = some (.iface 34 (.pointer (some e0)))) (ha : w.cell? e0 = some (.string s0)) (hab : w.heap[e0.block]? = some (.cells ca ta (0, 0))) (hal : e0.block < w.heap.size) (h0l : 0 < w.heap.size) :
    Calls Tryf.prog 3 #[.string a, .string b, .agg cs, .string r] w fun e w' => e = .returned (.bool true) ∧ Below w.heap.size w w' := by
  have HC1 : Hid (C.all (·.oneCell') = true) := hC1
  have HCs : Hid (C.size = 34) := hC
  have HB : Hid (Tryf.prog.built 26 [(0, .string a), (1, .string b), (2, .agg cs)] = some C) := hbt
  have Hg : Hid (w.cell? ⟨0, 0, none⟩ = some (.iface 34 (.pointer (some e0)))) := hg
  clear hC1 hC hbt hg
  go_enter Tryf.func3, Tryf.ntmps3
  go_wp2_with (first
    | (refine wpList_load_row rfl 22 _ rfl _ rfl 22 cs (0, 0) _ ?_ Tryf.underlying22 rfl (by rw [hcs]; exact Tryf.size22) ?_)
    | (refine wpList_buildTo rfl 26 #[(0, Operand.tmp 41), (1, Operand.tmp 42), (2, Operand.tmp 43)] rfl (some 44) rfl C ?_ ?_; simp only [List.map_toArray, List.map_cons, List.map_nil]; exact HB.out)
    | (refine store26 w _ _ _ C HCs.out HC1.out ?_ ?_ ?_ ?_; rfl; rfl; rfl)
    | (refine load26 w _ _ C HCs.out ?_ ?_; rfl)
    | (go_at_call 5; refine (bytes5 a b r cs _ h).mono ?_; rintro e w' ⟨rfl, rfl⟩))
  · exact heap_alloc_last w _
  · exact heap_alloc2_old w _ _
  have hB : Below w.heap.size w (((w.alloc (.cells cs 22)).alloc (.cells cs 22)).alloc (.cells C 26)) := (((Below.refl _ w).alloc (Nat.le_refl _) _).alloc (by simp) _).alloc (by simp; omega) _
  have hsz : (((w.alloc (.cells cs 22)).alloc (.cells cs 22)).alloc (.cells C 26)).heap.size = w.heap.size + 3 := by simp
  refine (of6 F C a e0 s0 r ca ta _ ?_ hC0 HCs.out ?_ ?_ ?_ ?_ ?_).mono ?_
  · exact hF
  · exact cell_later hB Hg.out
  · exact cell_later hB ha
  · rw [hB.block _ hal]; exact hab
  · rw [hsz]; omega
  · rw [hsz]; omega
  rintro e w4 ⟨rfl, hB4⟩
  rw [hsz] at hB4
  go_wp2
  go_ret
  exact ⟨rfl, hB.trans (hB4.mono (by omega))⟩

set_option maxHeartbeats 400000 in
theorem law3_no (a b r : ByteArray) (cs : Array Value) (w : World) (ha : a.size ≤ maxLen) (hb : b.size ≤ maxLen) (hr : r.size ≤ maxLen) (h : 1048576 < a.size + b.size + r.size) (hcs : cs.size = 32) :
    Calls Tryf.prog 3 #[.string a, .string b, .agg cs, .string r] w fun e w' => e = .returned (.bool true) ∧ Below w.heap.size w w' := by
  have hc := fun W => bytes5_no a b r cs W ha hb hr h
  clear ha hb hr h
  go_enter Tryf.func3, Tryf.ntmps3
  go_wp2_with (first
    | (refine wpList_load_row rfl 22 _ rfl _ rfl 22 cs (0, 0) _ ?_ Tryf.underlying22 rfl (by rw [hcs]; exact Tryf.size22) ?_)
    | (go_at_call 5; refine (hc _).mono ?_; rintro e w' ⟨rfl, rfl⟩))
  · exact heap_alloc_last w _
  go_ret
  exact ⟨rfl, ((Below.refl _ w).alloc (Nat.le_refl _) _).alloc (by simp) _⟩

set_option maxHeartbeats 400000 in
theorem bytes7 (a b r : ByteArray) (cs : Array Value) (w : World) (h : a.size + b.size + r.size ≤ 1048576) :
    Calls Tryf.prog 7 #[.string a, .string b, .agg cs, .string r] w fun e w' => e = .returned (.bool true) ∧ w' = w.alloc (.cells cs 22) := by
  go_enter Tryf.func7, Tryf.ntmps7
  go_wp2
  go_ret
  exact ⟨rfl, rfl⟩
set_option maxHeartbeats 400000 in
theorem bytes7_no (a b r : ByteArray) (cs : Array Value) (w : World) (ha : a.size ≤ maxLen) (hb : b.size ≤ maxLen) (hr : r.size ≤ maxLen) (h : 1048576 < a.size + b.size + r.size) :
    Calls Tryf.prog 7 #[.string a, .string b, .agg cs, .string r] w fun e w' => e = .returned (.bool false) ∧ w' = w.alloc (.cells cs 22) := by
  unfold maxLen at ha hb hr
  go_enter Tryf.func7, Tryf.ntmps7
  go_wp2
  all_goals go_ret
  all_goals exact ⟨rfl, rfl⟩

set_option maxHeartbeats 400000 in
theorem law4 (F : Interp) (a b r : ByteArray) (cs C : Array Value) (e0 : Addr) (s0 : ByteArray) (ca : Array Value) (ta : TypeId) (w : World) (h : a.size + b.size + r.size ≤ 1048576)
    (hF : F.answers w.tape) (hcs : cs.size = 32) (hC : C.size = 34) (hC0 : C[0]? = some (.string a)) (hC1 : C.all (·.oneCell') = true)
    (hbt : Tryf.prog.built 26 [(0, .string a), (1, .string b), (2, .agg cs)] = some C)
    (hg : w.cell? ⟨0, 0, none⟩ = some (.iface 34 (.pointer (some e0)))) (ha : w.cell? e0 = some (.string s0)) (hab : w.heap[e0.block]? = some (.cells ca ta (0, 0))) (hal : e0.block < w.heap.size) (h0l : 0 < w.heap.size) :
    Calls Tryf.prog 4 #[.string a, .string b, .agg cs, .string r] w fun e w' => e = .returned (.bool true) ∧ Below w.heap.size w w' := by
  have HC1 : Hid (C.all (·.oneCell') = true) := hC1
  have HCs : Hid (C.size = 34) := hC
  have HB : Hid (Tryf.prog.built 26 [(0, .string a), (1, .string b), (2, .agg cs)] = some C) := hbt
  have Hg : Hid (w.cell? ⟨0, 0, none⟩ = some (.iface 34 (.pointer (some e0)))) := hg
  clear hC1 hC hbt hg
  go_enter Tryf.func4, Tryf.ntmps4
  go_wp2_with (first
    | (refine wpList_load_row rfl 22 _ rfl _ rfl 22 cs (0, 0) _ ?_ Tryf.underlying22 rfl (by rw [hcs]; exact Tryf.size22) ?_)
    | (refine wpList_buildTo rfl 26 #[(0, Operand.tmp 41), (1, Operand.tmp 42), (2, Operand.tmp 43)] rfl (some 44) rfl C ?_ ?_; simp only [List.map_toArray, List.map_cons, List.map_nil]; exact HB.out)
    | (refine store26 w _ _ _ C HCs.out HC1.out ?_ ?_ ?_ ?_; rfl; rfl; rfl)
    | (refine load26 w _ _ C HCs.out ?_ ?_; rfl)
    | (go_at_call 7; refine (bytes7 a b r cs _ h).mono ?_; rintro e w' ⟨rfl, rfl⟩))
  · exact heap_alloc_last w _
  · exact heap_alloc2_old w _ _
  have hB : Below w.heap.size w (((w.alloc (.cells cs 22)).alloc (.cells cs 22)).alloc (.cells C 26)) := (((Below.refl _ w).alloc (Nat.le_refl _) _).alloc (by simp) _).alloc (by simp; omega) _
  have hsz : (((w.alloc (.cells cs 22)).alloc (.cells cs 22)).alloc (.cells C 26)).heap.size = w.heap.size + 3 := by simp
  refine (of6 F C a e0 s0 r ca ta _ ?_ hC0 HCs.out ?_ ?_ ?_ ?_ ?_).mono ?_
  · exact hF
  · exact cell_later hB Hg.out
  · exact cell_later hB ha
  · rw [hB.block _ hal]; exact hab
  · rw [hsz]; omega
  · rw [hsz]; omega
  rintro e w4 ⟨rfl, hB4⟩
  rw [hsz] at hB4
  go_wp2
  go_ret
  exact ⟨rfl, hB.trans (hB4.mono (by omega))⟩

set_option maxHeartbeats 400000 in
theorem law4_no (a b r : ByteArray) (cs : Array Value) (w : World) (ha : a.size ≤ maxLen) (hb : b.size ≤ maxLen) (hr : r.size ≤ maxLen) (h : 1048576 < a.size + b.size + r.size) (hcs : cs.size = 32) :
    Calls Tryf.prog 4 #[.string a, .string b, .agg cs, .string r] w fun e w' => e = .returned (.bool true) ∧ Below w.heap.size w w' := by
  have hc := fun W => bytes7_no a b r cs W ha hb hr h
  clear ha hb hr h
  go_enter Tryf.func4, Tryf.ntmps4
  go_wp2_with (first
    | (refine wpList_load_row rfl 22 _ rfl _ rfl 22 cs (0, 0) _ ?_ Tryf.underlying22 rfl (by rw [hcs]; exact Tryf.size22) ?_)
    | (go_at_call 7; refine (hc _).mono ?_; rintro e w' ⟨rfl, rfl⟩))
  · exact heap_alloc_last w _
  go_ret
  exact ⟨rfl, ((Below.refl _ w).alloc (Nat.le_refl _) _).alloc (by simp) _⟩

end Go.Proofs.Qxb6618597aFmt
