/-
  IndexFunc.
-/
import Derived.Test.Qxb6618615aDoorIdx
namespace Go.Proofs.Qxb6618615aDoor
open Go.RowKit Go.Lib
set_option linter.unusedVariables false
set_option linter.unusedSimpArgs false

/-- What IndexFunc answers. -/
def Found (x : List Lvl) (ts : List (List Lvl)) (r : Int) : Prop :=
  (r = -1 ∧ ∀ j (h : j < ts.length), alike x (ts[j]'h) = false) ∨ ∃ i, ∃ h : i < ts.length, r = i ∧ alike x (ts[i]'h) = true ∧ ∀ j (hj : j < i), alike x (ts[j]'(by omega)) = false

set_option maxHeartbeats 4000000 in
set_option maxRecDepth 100000 in
theorem index18 (lo hi : Nat) (x : List Lvl) (ts : List (List Lvl)) (X : Nat) (pv v : Value) (w : World) (hhi : hi ≤ w.heap.size) (hx : Good x) (hts : ∀ t ∈ ts, Good t) (hX : w.cell? ⟨X, 0, none⟩ = some pv) (h1 : TokAt (fun b => b < w.heap.size) w x pv) (hp : ProvAt lo hi w v ts) (hl : ts.length ≤ 1024) :
    Calls Tryd.prog 18 #[v, .func (.func 16) #[] #[.pointer (some ⟨X, 0, none⟩)]] w fun e w' => (∃ r : Int, e = .returned (.int .i64 r) ∧ Found x ts r) ∧ Below w.heap.size w w' := by
  have hXl : X < w.heap.size := World.block_lt_of_cell? w ⟨X, 0, none⟩ hX
  rcases hp with ⟨rfl, rfl⟩ | ⟨B, cap, rfl, _, hB, hr⟩
  · go_enter Tryd.func18, Tryd.ntmps18
    go_wp2
    refine wp_loop_rounds 1 ?_
    rw [rounds_succ]
    go_wp2
    go_ret
    exact ⟨⟨-1, rfl, .inl ⟨rfl, fun j hj => absurd hj (by simp)⟩⟩, Below.refl _ _⟩
  · obtain ⟨cs, hrow, hcs, hcap, hel⟩ := hr
    obtain ⟨len, HL⟩ : ∃ len, Hid (ts.length = len) := ⟨_, rfl⟩
    rw [HL.out] at hl hcap ⊢
    have HE : Hid (∀ j (h : j < ts.length), ∃ row, RowAt (fun b => b < hi ∧ b ≠ B) w (ts[j]'h) row ∧ w.rangeAt B (j * 10) row) := hel
    have HG : Hid (∀ t ∈ ts, Good t) := hts
    have H1 : Hid (TokAt (fun b => b < w.heap.size) w x pv) := h1
    clear hel hts h1 hrow hcs
    go_enter Tryd.func18, Tryd.ntmps18
    go_wp2
    go_loopw [5, 8] (fun _ i wr => ∃ k : Nat, i = .int .i64 k ∧ k ≤ len ∧ Below w.heap.size w wr ∧ Hid (∀ j (h : j < ts.length), j < k → alike x (ts[j]'h) = false)) (fun _ i _ => len - (intOf i).toNat)
    case atStart => exact ⟨0, rfl, Nat.zero_le _, Below.refl _ _, fun j hj h => absurd h (by omega)⟩
    case round =>
      obtain ⟨k, rfl, hk, hb, HN⟩ := hrel
      by_cases hlt : k < len
      · have hkl : k < ts.length := by rw [HL.out]; exact hlt
        obtain ⟨row, r1, r2⟩ := HE.out k hkl
        have hbs := hb.size
        have R2 : Hid (wr.rangeAt B (k * 10) row) := rangeAt_block r2 (hb.block B (by omega))
        have R3 : Hid (row.length = 10) := r1.length
        have hc := clo16 x (ts[k]'hkl) X pv row wr hx (HG.out _ (List.getElem_mem hkl)) ((hb.cell (p := ⟨X, 0, none⟩) hXl).trans hX) (TokAt.mono (fun b h => Nat.lt_of_lt_of_le h hb.size) (TokAt.kept (kept_of_below hb fun _ h => h) H1.out)) ((r1.kept (kept_of_below hb fun _ h => by omega)).mono fun b h => by omega)
        cases ha : alike x (ts[k]'hkl) with
        | true =>
          rw [ha] at hc
          have HC : Hid (Calls Tryd.prog 16 #[.agg row.toArray, .pointer (some ⟨X, 0, none⟩)] wr fun e w' => e = .returned (.bool true) ∧ Below wr.heap.size wr w') := hc
          have HA : Hid (alike x (ts[k]'hkl) = true) := ha
          clear hc r1 r2 ha
          go_wp2_with (first | (refine load44 wr B (k * 10) row R2.out R3.out ?_ ?_; rfl))
          refine HC.out.mono ?_
          rintro e w1 ⟨rfl, hb1⟩
          go_wp2
          go_ret
          exact ⟨⟨_, rfl, .inr ⟨k, hkl, rfl, HA.out, fun j hj => HN.out j (by omega) hj⟩⟩, hb.trans (hb1.mono hb.size)⟩
        | false =>
          rw [ha] at hc
          have HC : Hid (Calls Tryd.prog 16 #[.agg row.toArray, .pointer (some ⟨X, 0, none⟩)] wr fun e w' => e = .returned (.bool false) ∧ Below wr.heap.size wr w') := hc
          have HA : Hid (alike x (ts[k]'hkl) = false) := ha
          clear hc r1 r2 ha
          go_wp2_with (first | (refine load44 wr B (k * 10) row R2.out R3.out ?_ ?_; rfl))
          refine HC.out.mono ?_
          rintro e w1 ⟨rfl, hb1⟩
          go_wp2
          refine ⟨⟨k + 1, by go_num, by omega, hb.trans (hb1.mono hb.size), fun j hj h => ?_⟩, by simp [intOf]; omega⟩
          by_cases e : j < k
          · exact HN.out j hj e
          · have e2 : j = k := by omega
            subst e2
            exact HA.out
      · go_wp2
        go_ret
        exact ⟨⟨-1, rfl, .inl ⟨rfl, fun j hj => HN.out j hj (by rw [HL.out] at hj; omega)⟩⟩, hb⟩
end Go.Proofs.Qxb6618615aDoor
