/-
  zzToksSize.
-/
import Derived.Test.Qxb6618615aDoorSize
namespace Go.Proofs.Qxb6618615aDoor
open Go.RowKit Go.Lib

/-- A slice of tokens, each of ten cells. -/
def ToksAt (ok : Nat → Prop) (w : World) (v : Value) (ts : List (List Lvl)) : Prop :=
  ∃ p c, v = .slice p ts.length c ∧ (p = none → c = 0 ∧ ts.length = 0) ∧ (0 < ts.length → ∃ M o, p = some ⟨M, o, none⟩ ∧ ok M ∧ ∀ k (h : k < ts.length), TokAt ok w (ts[k]'h) (.pointer (some ⟨M, o + k * 10, none⟩)))
def toksSize : List (List Lvl) → Nat
  | [] => 0
  | t :: r => tokSize t + toksSize r
theorem toksSize_append (a b : List (List Lvl)) : toksSize (a ++ b) = toksSize a + toksSize b := by
  induction a with
  | nil => simp [toksSize]
  | cons c r ih => simp [toksSize, ih]; omega
theorem toksSize_take (l : List (List Lvl)) (k : Nat) (h : k < l.length) : toksSize (l.take (k + 1)) = toksSize (l.take k) + tokSize (l[k]'h) := by
  rw [List.take_succ_eq_append_getElem h, toksSize_append]; simp [toksSize]
theorem mem_take_succ {α : Type} {l : List α} {k : Nat} (h : k < l.length) {x : α} (hx : x ∈ l.take (k + 1)) : x ∈ l.take k ∨ x = l[k]'h := by
  rw [List.take_succ_eq_append_getElem h] at hx
  rwa [List.mem_append, List.mem_singleton] at hx

def ToldAll (ts : List (List Lvl)) (r : Int) : Prop := 0 ≤ r ∧ r ≤ 1152921504606846976 ∧ (r ≤ 1048576 → (∀ t ∈ ts, t.length ≤ 4096) ∧ r = (toksSize ts : Nat))

set_option maxRecDepth 100000 in
set_option maxHeartbeats 4000000 in
theorem toksSize4 (ok : Nat → Prop) (ts : List (List Lvl)) (v : Value) (w : World) (hts : ToksAt ok w v ts) (hf : ∀ t ∈ ts, ∀ L ∈ t, L.fits 140737488355328) (hl : ts.length ≤ 1024) :
    Calls Tryd.prog 4 #[v, .int .i64 0] w fun e w' => (∃ r : Int, e = .returned (.int .i64 r) ∧ ToldAll ts r) ∧ ∃ n, w' = w.drewN n := by
  obtain ⟨p, c, rfl, _, hc⟩ := hts
  have HT : Hid _ := hc
  have HF : Hid _ := hf
  obtain ⟨len, HL⟩ : ∃ len, Hid (ts.length = len) := ⟨_, rfl⟩
  rw [HL.out] at hl ⊢
  clear hc hf
  go_enter Tryd.func4, Tryd.ntmps4
  go_wp2
  go_loopw [1, 5] (fun tot i wr => ∃ (k s n : Nat), i = .int .i64 k ∧ k ≤ len ∧ tot = .int .i64 s ∧ Hid (ToldAll (ts.take k) s) ∧ s ≤ 1152921504606846976 ∧ wr = w.drewN n) (fun _ i _ => len - (intOf i).toNat)
  case atStart => exact ⟨0, 0, 0, rfl, Nat.zero_le _, rfl, ⟨by omega, by omega, fun _ => ⟨by simp, by simp [toksSize]⟩⟩, by omega, rfl⟩
  case round =>
    obtain ⟨k, s, n, rfl, hk, rfl, HS, hs, rfl⟩ := hrel
    by_cases hlt : k < len
    · by_cases hs4 : s ≤ 1048576
      · obtain ⟨M1, o1, rfl, _, g1⟩ := HT.out (by rw [HL.out]; omega)
        have hkl : k < ts.length := by rw [HL.out]; exact hlt
        have G : Hid _ := g1 k hkl
        have D3 : Hid _ := toksSize_take ts k hkl
        clear g1 HT
        go_wp2_with fail
        refine (tokSize5 ok (ts[k]'hkl) _ s _ (TokAt.kept (w := w) (w' := w.drewN n) (fun _ _ => rfl) G.out) (HF.out _ (List.getElem_mem hkl)) (by omega)).mono ?_
        rintro e w' ⟨⟨r, rfl, T⟩, n', rfl⟩
        have T' : Hid _ := T
        have t0 := T.1
        have t1 := T.2.1
        clear T
        obtain ⟨q, rfl⟩ : ∃ q : Nat, r = q := ⟨r.toNat, by omega⟩
        go_wp2
        refine ⟨⟨k + 1, q, _, by go_num, by omega, rfl, ⟨by omega, by omega, fun h => ⟨?_, ?_⟩⟩, by omega, rfl⟩, by simp [intOf]; omega⟩
        · intro x hx
          have := HS.out.2.2 (by omega)
          rcases mem_take_succ hkl hx with h1 | rfl
          · exact this.1 x h1
          · exact (T'.out.2.2 h).1
        · have e1 := (HS.out.2.2 (by omega)).2
          have e2 := (T'.out.2.2 h).2
          rw [D3.out]
          omega
      · go_wp2
        go_ret
        exact ⟨⟨_, rfl, by omega, by omega, fun h => absurd h (by omega)⟩, _, rfl⟩
    · go_wp2
      go_ret
      refine ⟨⟨_, rfl, ?_⟩, _, rfl⟩
      have h := HS.out
      rw [List.take_of_length_le (by rw [HL.out]; omega)] at h
      exact h
end Go.Proofs.Qxb6618615aDoor
