/-
  Delete.
-/
import Derived.Test.Qxb6618615aDoorFind
namespace Go.Proofs.Qxb6618615aDoor
open Go.RowKit Go.Lib
set_option linter.unusedVariables false
set_option linter.unusedSimpArgs false

/-- 'clear' of one element. -/
theorem clear1 : ∃ zs : List Value, zs.length = 10 ∧ ∀ (ty : TypeId) (w : World) (b o c : Nat), w.there b o 10 → (Builtin.clear_ #[31] ty #[.slice (some ⟨b, o, none⟩) 1 c]).run Tryd.prog w = .ok (.tuple #[]) (w.setCells b o zs) := by
  have hz : (Tryd.prog.info? 44).map (fun i => i.zero.map fun z => (z.cells.size, z.cells.all (·.oneCell'))) = some (some (10, true)) := by kernel_rfl
  obtain ⟨i, h1, h2⟩ := Option.map_eq_some_iff.1 hz
  obtain ⟨z, h3, h4⟩ := Option.map_eq_some_iff.1 h2
  simp only [Prod.mk.injEq] at h4
  have hv : ∀ w : World, (zeroValue 44).run Tryd.prog w = .ok z w := by
    intro w
    simp [zeroValue, typeInfo, h1, h3]
  refine ⟨z.cells.toList, by simpa using h4.1, fun ty w b o c ht => ?_⟩
  have hzc : (Builtin.zeroCells z.cells 1).toList = z.cells.toList := by
    apply List.ext_getElem
    · simp [Builtin.zeroCells]
    · intro j g1 g2
      simp [Builtin.zeroCells] at g1 ⊢
      rw [Nat.mod_eq_of_lt g1, getElem!_pos z.cells j g1]
  have hst := run_storeCells_cells (P := Tryd.prog) b o z.cells.toList 0 w (fun j hj => by simpa using (ht j (by simp at hj; omega)).1) (fun j hj => by simpa using (ht j (by simp at hj; omega)).2)
    (fun v hv' => (Array.all_eq_true_iff_forall_mem.1 h4.2) v (by simpa using hv'))
  simp only [Nat.add_zero] at hst
  simp [Builtin.clear_, run_underlying Tryd.underlying31, hv, hzc, hst]

/-- Every cell of the rows is one cell. -/
theorem RowsAt.one {ok : Nat → Prop} {w : World} {B : Nat} {ts : List (List Lvl)} {cs : Array Value} (hg : w.heap[B]? = some (.cells cs 44 (0, 0))) (hel : ∀ j (h : j < ts.length), ∃ row, RowAt ok w (ts[j]'h) row ∧ w.rangeAt B (j * 10) row)
    (idx : Nat) (u : Value) (hu : cs[idx]? = some u) (hi : idx < ts.length * 10) : u.oneCell' = true := by
  obtain ⟨row, r1, r2⟩ := hel (idx / 10) (by omega)
  have hl := r1.length
  have hm : idx % 10 < row.length := by omega
  have := r2 (idx % 10) _ (List.getElem?_eq_getElem hm)
  rw [cell_of_row _ _ _ cs 44 (0, 0) hg, show idx / 10 * 10 + idx % 10 = idx by omega, hu] at this
  obtain rfl := Option.some.inj this
  exact r1.one _ (List.getElem_mem hm)

/-- The cells behind the append. -/
def shifted (cs : List Value) (i n : Nat) : List Value := cs.take (i * 10) ++ (cs.drop ((i + 1) * 10)).take ((n - (i + 1)) * 10) ++ cs.drop (i * 10 + ((cs.drop ((i + 1) * 10)).take ((n - (i + 1)) * 10)).length)
theorem shifted_length (cs : List Value) (i n : Nat) (hi : i < n) (hn : n * 10 ≤ cs.length) : (shifted cs i n).length = cs.length := by
  simp only [shifted, List.length_append, List.length_take, List.length_drop]
  omega
theorem shifted_before (cs : List Value) (i n k : Nat) (hi : i < n) (hn : n * 10 ≤ cs.length) (hk : k < i * 10) : (shifted cs i n)[k]? = cs[k]? := by
  simp only [shifted, List.append_assoc]
  rw [List.getElem?_append_left (by simp; omega), List.getElem?_take, if_pos hk]
theorem shifted_behind (cs : List Value) (i n k : Nat) (hi : i < n) (hn : n * 10 ≤ cs.length) (hk : i * 10 ≤ k) (hk2 : k < (n - 1) * 10) : (shifted cs i n)[k]? = cs[k + 10]? := by
  have h1 : (cs.take (i * 10)).length = i * 10 := by simp; omega
  simp only [shifted, List.append_assoc]
  rw [List.getElem?_append_right (by omega), h1, List.getElem?_append_left (by simp; omega), List.getElem?_take, if_pos (by omega), List.getElem?_drop]
  congr 1
  omega

theorem appRoom (ok : Nat → Prop) (ty : TypeId) (w : World) (B i cap c : Nat) (ts : List (List Lvl)) (cs : Array Value) (a : Addr) (hg : w.heap[B]? = some (.cells cs 44 (0, 0))) (hcs : cs.size = cap * 10) (hi : i < ts.length) (hn : ts.length ≤ cap)
    (hel : ∀ j (h : j < ts.length), ∃ row, RowAt ok w (ts[j]'h) row ∧ w.rangeAt B (j * 10) row) (ha : ts.length - (i + 1) = 0 ∨ a = ⟨B, (i + 1) * 10, none⟩) :
    (Builtin.append_ #[31, 31] ty #[.slice (some ⟨B, 0, none⟩) i cap, .slice (some a) (ts.length - (i + 1)) c]).run Tryd.prog w = .ok (.slice (some ⟨B, 0, none⟩) (ts.length - 1) cap) (w.setRow B (shifted cs.toList i ts.length).toArray) := by
  obtain ⟨inf, z, h1, h2, h3, h4⟩ := info44
  have hsz : cs.toList.length = cap * 10 := by simpa using hcs
  have hml : ((cs.toList.drop ((i + 1) * 10)).take ((ts.length - (i + 1)) * 10)).length = (ts.length - (i + 1)) * 10 := by
    simp only [List.length_take, List.length_drop]
    omega
  have hget : ∀ j u, ((cs.toList.drop ((i + 1) * 10)).take ((ts.length - (i + 1)) * 10))[j]? = some u → j < (ts.length - (i + 1)) * 10 ∧ cs[(i + 1) * 10 + j]? = some u := by
    intro j u hj
    have hjl := (List.getElem?_eq_some_iff.1 hj).1
    rw [hml] at hjl
    rw [List.getElem?_take, if_pos hjl, List.getElem?_drop] at hj
    exact ⟨hjl, by simpa using hj⟩
  have h := run_append_room (P := Tryd.prog) w 31 ty 44 inf Tryd.underlying31 h1 B i cap cs hg a (ts.length - (i + 1)) c ((cs.toList.drop ((i + 1) * 10)).take ((ts.length - (i + 1)) * 10)) (by rw [h3, hml]) (fun j u hj => by
      obtain ⟨g1, g2⟩ := hget j u hj
      rcases ha with ha | ha
      · omega
      · subst ha
        rw [Addr.add_lit, cell_of_row _ _ _ cs 44 (0, 0) hg]
        exact g2) (fun u hu => by
      obtain ⟨j, hj, rfl⟩ := List.getElem_of_mem hu
      obtain ⟨g1, g2⟩ := hget j _ (List.getElem?_eq_getElem hj)
      exact RowsAt.one hg hel _ _ g2 (by omega)) (by omega) (by rw [h3, hml]; omega)
  rw [h3] at h
  rw [h]
  congr 1
  rw [show i + (ts.length - (i + 1)) = ts.length - 1 by omega]

theorem wpApp31 {ops : Array Oper} {a : Act} {K : Act → World → Prop} {Q : Exit → Act → World → Prop} {d : Option Tmp} {s x : Operand} {pos : String} {af : Array Edge} (w : World) (v xv v' : Value) (w' : World) (hs : a.eval s = v) (hx : a.eval x = xv)
    (hr : (Builtin.append_ #[31, 31] 31 #[v, xv]).run Tryd.prog w = .ok v' w') (h : K (a.put d v') w') :
    if Region.wanted { dst := d, op := .call { callee := .builtin .append, args := #[s, x], argTypes := #[31, 31] }, type := 31, pos := pos, after := af, guard := none } (yielded ops a.tmps) = true then Oper.wp Tryd.prog { dst := d, op := .call { callee := .builtin .append, args := #[s, x], argTypes := #[31, 31] }, type := 31, pos := pos, after := af, guard := none } a w K Q else K (a.put d undef) w := by
  rw [if_pos (by rfl)]
  unfold Oper.wp execOp
  simp only [resolve, invoke, builtin, Sem.run_bind, Sem.run_pure, Result.andThen_ok, List.map_toArray, List.map_cons, List.map_nil, hs, hx, hr]
  exact h

/-- What lies there behind. -/
theorem erased (ok : Nat → Prop) (w : World) (B i cap : Nat) (ts : List (List Lvl)) (cs : Array Value) (zs : List Value) (hB : ¬ ok B) (hi : i < ts.length) (hg : w.heap[B]? = some (.cells cs 44 (0, 0))) (hcs : cs.size = cap * 10) (hn : ts.length ≤ cap)
    (hel : ∀ j (h : j < ts.length), ∃ row, RowAt ok w (ts[j]'h) row ∧ w.rangeAt B (j * 10) row) (hz : zs.length = 10) :
    RowsAt ok ((w.setRow B (shifted cs.toList i ts.length).toArray).setCells B ((ts.length - 1) * 10) zs) B cap (ts.eraseIdx i) := by
  have hsz : cs.toList.length = cap * 10 := by simpa using hcs
  have hsl : (shifted cs.toList i ts.length).length = cap * 10 := by rw [shifted_length _ _ _ hi (by omega), hsz]
  have g1 := setRow_heap w B cs (shifted cs.toList i ts.length).toArray 44 (0, 0) hg
  obtain ⟨cs', q1, q2⟩ := heap_setCells_row B zs ((ts.length - 1) * 10) _ _ 44 (0, 0) g1
  have hlen : (ts.eraseIdx i).length = ts.length - 1 := by rw [List.length_eraseIdx, if_pos hi]
  have hkept : Kept ok w ((w.setRow B (shifted cs.toList i ts.length).toArray).setCells B ((ts.length - 1) * 10) zs) := fun b hb => by
    have hne : b ≠ B := fun e => hB (e ▸ hb)
    rw [heap_setCells_other B zs _ _ b hne, setRow_other _ _ _ _ hne]
  refine ⟨cs', q2, by rw [q1]; simpa using hsl, by omega, fun j hj => ?_⟩
  rw [hlen] at hj
  have key : ∀ (t : List Lvl) (k : Nat) (row : List Value), RowAt ok w t row → w.rangeAt B (k * 10) row → (k = j ∧ j < i ∨ k = j + 1 ∧ i ≤ j) → ∃ row, RowAt ok ((w.setRow B (shifted cs.toList i ts.length).toArray).setCells B ((ts.length - 1) * 10) zs) t row ∧ ((w.setRow B (shifted cs.toList i ts.length).toArray).setCells B ((ts.length - 1) * 10) zs).rangeAt B (j * 10) row := by
    intro t k row r1 r2 hk
    refine ⟨row, r1.kept hkept, World.rangeAt_setCells_apart ?_ B _ zs (.inr (.inl (by rw [r1.length]; omega)))⟩
    intro q v hq
    have hql : q < row.length := (List.getElem?_eq_some_iff.1 hq).1
    rw [r1.length] at hql
    have h := r2 q v hq
    rw [cell_of_row _ _ _ cs 44 (0, 0) hg] at h
    rw [cell_of_row _ _ _ _ 44 (0, 0) g1]
    have h' : cs.toList[k * 10 + q]? = some v := by simpa using h
    rw [List.getElem?_toArray]
    rcases hk with ⟨rfl, hk⟩ | ⟨rfl, hk⟩
    · rw [shifted_before _ _ _ _ hi (by omega) (by omega)]
      exact h'
    · rw [shifted_behind _ _ _ _ hi (by omega) (by omega) (by omega), show j * 10 + q + 10 = (j + 1) * 10 + q by omega]
      exact h'
  rw [List.getElem_eraseIdx]
  by_cases e : j < i
  · rw [dif_pos e]
    obtain ⟨row, r1, r2⟩ := hel j (by omega)
    exact key _ j row r1 r2 (.inl ⟨rfl, e⟩)
  · rw [dif_neg e]
    obtain ⟨row, r1, r2⟩ := hel (j + 1) (by omega)
    exact key _ (j + 1) row r1 r2 (.inr ⟨rfl, by omega⟩)

set_option maxHeartbeats 400000 in
set_option maxRecDepth 100000 in
theorem delete19 (ok : Nat → Prop) (w : World) (B i cap : Nat) (ts : List (List Lvl)) (hB : ¬ ok B) (hi : i < ts.length) (hr : RowsAt ok w B cap ts) (hl : ts.length ≤ 1024) :
    Calls Tryd.prog 19 #[.slice (some ⟨B, 0, none⟩) ts.length cap, .int .i64 i, .int .i64 ((i : Int) + 1)] w fun e w' => e = .returned (.slice (some ⟨B, 0, none⟩) (ts.length - 1) cap) ∧ RowsAt ok w' B cap (ts.eraseIdx i) ∧ (∀ k, k ≠ B → w'.heap[k]? = w.heap[k]?) ∧ w'.heap.size = w.heap.size ∧ Below B w w' := by
  obtain ⟨cs, hg, hcs, hn, hel⟩ := hr
  obtain ⟨n, HL⟩ : ∃ n, Hid (ts.length = n) := ⟨_, rfl⟩
  obtain ⟨zs, hz, hclear⟩ := clear1
  have hel' : ∀ j (h : j < ts.length), ∃ row, RowAt ok w.drew (ts[j]'h) row ∧ w.drew.rangeAt B (j * 10) row := fun j h => by
    obtain ⟨row, r1, r2⟩ := hel j h
    exact ⟨row, r1.kept (w' := w.drew) (fun _ _ => rfl), r2⟩
  have hap : ∀ (c : Nat) (a : Addr), (n - (i + 1) = 0 ∨ a = ⟨B, (i + 1) * 10, none⟩) → (Builtin.append_ #[31, 31] 31 #[.slice (some ⟨B, 0, none⟩) i cap, .slice (some a) (n - (i + 1)) c]).run Tryd.prog w.drew = .ok (.slice (some ⟨B, 0, none⟩) (n - 1) cap) (w.drew.setRow B (shifted cs.toList i n).toArray) := by
    intro c a ha
    rw [← HL.out] at ha ⊢
    exact appRoom ok 31 w.drew B i cap c ts cs a hg hcs hi hn hel' ha
  have her := erased ok w.drew B i cap ts cs zs hB hi hg hcs hn hel' hz
  have hg1 := setRow_heap w.drew B cs (shifted cs.toList i n).toArray 44 (0, 0) hg
  have hsl : (shifted cs.toList i n).length = cap * 10 := by
    have hsz : cs.toList.length = cap * 10 := by simpa using hcs
    rw [shifted_length _ _ _ (by rw [← HL.out]; exact hi) (by rw [← HL.out]; omega), hsz]
  have hth : (w.drew.setRow B (shifted cs.toList i n).toArray).there B ((n - 1) * 10) 10 := by
    have hn' : n ≤ cap := by rw [← HL.out]; exact hn
    have hi' : i < n := by rw [← HL.out]; exact hi
    intro j hj
    rw [cell_of_row _ _ _ _ 44 (0, 0) hg1]
    refine ⟨?_, ?_⟩
    · rw [Array.getElem?_eq_getElem (by simp [hsl]; omega)]; rfl
    · unfold World.frozen?
      rw [hg1]; simp
  have HC : Hid (∀ c, (Builtin.clear_ #[31] 0 #[.slice (some ⟨B, (n - 1) * 10, none⟩) 1 c]).run Tryd.prog (w.drew.setRow B (shifted cs.toList i n).toArray) = .ok (.tuple #[]) ((w.drew.setRow B (shifted cs.toList i n).toArray).setCells B ((n - 1) * 10) zs)) := fun c => hclear _ _ _ _ _ hth
  have hfr : (∀ k, k ≠ B → ((w.drew.setRow B (shifted cs.toList i n).toArray).setCells B ((n - 1) * 10) zs).heap[k]? = w.heap[k]?) ∧ ((w.drew.setRow B (shifted cs.toList i n).toArray).setCells B ((n - 1) * 10) zs).heap.size = w.heap.size ∧ Below B w ((w.drew.setRow B (shifted cs.toList i n).toArray).setCells B ((n - 1) * 10) zs) := by
    refine ⟨fun k hk => ?_, ?_, below_setCells B (Nat.le_refl _) _ _ _ (show Below B w _ from ⟨rfl, rfl, rfl, by rw [setRow_size]; exact Nat.le_refl _, fun k hk => by rw [setRow_other _ _ _ _ (by omega)]; rfl⟩)⟩
    · rw [heap_setCells_other B zs _ _ k hk, setRow_other _ _ _ _ hk]
      rfl
    · rw [size_setCells, setRow_size]
      rfl
  have HF : Hid ((∀ k, k ≠ B → ((w.drew.setRow B (shifted cs.toList i n).toArray).setCells B ((n - 1) * 10) zs).heap[k]? = w.heap[k]?) ∧ ((w.drew.setRow B (shifted cs.toList i n).toArray).setCells B ((n - 1) * 10) zs).heap.size = w.heap.size ∧ Below B w ((w.drew.setRow B (shifted cs.toList i n).toArray).setCells B ((n - 1) * 10) zs)) := hfr
  clear hfr
  rw [HL.out] at her hi hn hl ⊢
  have HE : Hid (RowsAt ok ((w.drew.setRow B (shifted cs.toList i n).toArray).setCells B ((n - 1) * 10) zs) B cap (ts.eraseIdx i)) := her
  have HAP : Hid (∀ (c : Nat) (a : Addr), (n - (i + 1) = 0 ∨ a = ⟨B, (i + 1) * 10, none⟩) → (Builtin.append_ #[31, 31] 31 #[.slice (some ⟨B, 0, none⟩) i cap, .slice (some a) (n - (i + 1)) c]).run Tryd.prog w.drew = .ok (.slice (some ⟨B, 0, none⟩) (n - 1) cap) (w.drew.setRow B (shifted cs.toList i n).toArray)) := hap
  clear hel hel' hap her hclear hz hth hsl hg1 hg hcs
  have b1 : (0 : Int) ≤ i := by omega
  have b2 : (i : Int) + 1 ≤ n := by omega
  have b3 : (n : Int) ≤ cap := by omega
  have b4 : (i : Int) ≤ cap := by omega
  have b5 : ¬ cap = n - 1 := by omega
  have b6 : (0 : Int) ≤ (i : Int) + 1 := by omega
  go_enter Tryd.func19, Tryd.ntmps19
  go_wp2
  by_cases hc : cap = i + 1
  · have hn1 : n = i + 1 := by omega
    have hap0 := HAP.out 0 ⟨B, 0, none⟩ (.inl (by omega))
    have hcl := HC.out (cap - (n - 1))
    subst hc
    subst hn1
    clear HAP HC b1 b2 b3 b4 b5
    have e1 : i + 1 - (i + 1) = 0 := by omega
    have e2 : i + 1 - 1 = i := by omega
    have e3 : i + 1 - i = 1 := by omega
    rw [e1, e2] at hap0
    rw [e2, e3] at hcl
    rw [e2] at HE HF
    have HAP : Hid ((Builtin.append_ #[31, 31] 31 #[.slice (some ⟨B, 0, none⟩) i (i + 1), .slice (some ⟨B, 0, none⟩) 0 0]).run Tryd.prog w.drew = .ok (.slice (some ⟨B, 0, none⟩) i (i + 1)) (w.drew.setRow B (shifted cs.toList i (i + 1)).toArray)) := hap0
    clear hap0
    have b1 : (0 : Int) ≤ i := by omega
    have b2 : (i : Int) ≤ (i : Int) + 1 := by omega
    have b3 : (i : Int) ≤ ((i + 1 : Nat) : Int) := by omega
    go_region_held3 (fun _ => True) (trivial) (first | (refine wpApp31 w.drew (.slice (some ⟨B, 0, none⟩) i (i + 1)) (.slice (some ⟨B, 0, none⟩) 0 0) _ _ rfl rfl HAP.out ?_))
    go_wp2
    go_ret
    exact ⟨rfl, HE.out, HF.out⟩
  · go_region_held3 (fun _ => True) (trivial) (first | (refine wpApp31 w.drew (.slice (some ⟨B, 0, none⟩) i cap) (.slice (some ⟨B, (i + 1) * 10, none⟩) (n - (i + 1)) (cap - (i + 1))) _ _ rfl rfl (HAP.out _ _ (.inr rfl)) ?_))
    have b7 : (0 : Int) ≤ ((n - 1 : Nat) : Int) := by omega
    have b8 : ((n - 1 : Nat) : Int) ≤ n := by omega
    have b9 : n - (n - 1) = 1 := by omega
    have hcl := HC.out (cap - (n - 1))
    go_wp2
    go_ret
    exact ⟨rfl, HE.out, HF.out⟩
end Go.Proofs.Qxb6618615aDoor
