/-
  zzTokSize, zzToksSize.
-/
import Derived.Test.Qxb6618615aDoorEq
namespace Go.Proofs.Qxb6618615aDoor
open Go.RowKit Go.Lib

def capsSize : List ByteArray → Nat
  | [] => 0
  | c :: r => 16 + c.size + capsSize r
def lvlSize (L : Lvl) : Nat := 128 + L.act.size + L.iss.size + L.sub.size + L.aud.size + L.nonce.length + L.sig.length + capsSize L.caps
def tokSize : List Lvl → Nat
  | [] => 0
  | L :: r => lvlSize L + tokSize r
theorem capsSize_append (a b : List ByteArray) : capsSize (a ++ b) = capsSize a + capsSize b := by
  induction a with
  | nil => simp [capsSize]
  | cons c r ih => simp [capsSize, ih]; omega
theorem capsSize_take (l : List ByteArray) (k : Nat) (h : k < l.length) : capsSize (l.take (k + 1)) = capsSize (l.take k) + (16 + (l[k]'h).size) := by
  rw [List.take_succ_eq_append_getElem h, capsSize_append]; simp [capsSize]

/-- What a size tells. -/
def Told (total : Nat) (t : List Lvl) (r : Int) : Prop := 0 ≤ r ∧ r ≤ 1152921504606846976 ∧ (r ≤ 1048576 → t.length ≤ 4096 ∧ r = (total + tokSize t : Nat))

set_option maxRecDepth 100000 in
set_option maxHeartbeats 4000000 in
theorem tokSize5 (ok : Nat → Prop) (t : List Lvl) (v : Value) (total : Nat) (w : World) (ht : TokAt ok w t v) (hf : ∀ L ∈ t, L.fits 140737488355328) (h0 : total ≤ 1152921504606846976) :
    Calls Tryd.prog 5 #[v, .int .i64 total] w fun e w' => (∃ r : Int, e = .returned (.int .i64 r) ∧ Told total t r) ∧ ∃ n, w' = w.drewN n := by
  have HT : Hid _ := ht
  have HF : Hid _ := hf
  clear ht hf
  go_enter Tryd.func5, Tryd.ntmps5
  go_wp2
  go_loopw [0, 1, 5] (fun p tot links wr => ∃ (r : List Lvl) (k s n : Nat), p = p ∧ TokAt ok w r p ∧ (∀ L ∈ r, L.fits 140737488355328) ∧ tot = .int .i64 s ∧ s ≤ 1152921504606846976 ∧ links = .int .i64 ((k : Int) + 1) ∧ k ≤ 4096 ∧ k + r.length = t.length ∧ (s ≤ 1048576 → s + tokSize r = total + tokSize t) ∧ wr = w.drewN n) (fun p tot links _ => 5000 - (intOf links).toNat)
  case atStart => exact ⟨t, 0, total, 0, rfl, HT.out, HF.out, rfl, h0, rfl, by omega, by omega, fun _ => rfl, rfl⟩
  case round =>
    obtain ⟨r, k, s, n, _, hr, hfr, rfl, hs, rfl, hk, hkl, hsum, rfl⟩ := hrel
    have HS : Hid _ := hsum
    clear hsum
    cases r with
    | nil =>
      obtain rfl : _ = Value.pointer none := hr
      go_wp2
      go_ret
      refine ⟨⟨_, rfl, by omega, by omega, fun h => ⟨?_, ?_⟩⟩, ⟨_, rfl⟩⟩
      · simp at hkl; omega
      · have := HS.out (by omega); simp [tokSize] at this; omega
    | cons L r =>
      obtain ⟨M, o, vc, vn, vp, vs, rfl, hM, c0, c1, c2, c3, c4, c5, c6, c7, c8, c9, s1, s2, s3, hr'⟩ := hr
      obtain ⟨f1, f2, f3, f4, f5, f6, f7, f8, _, _⟩ := hfr L (by simp)
      have HR : Hid _ := hr'
      have HFR : Hid _ := hfr
      have H6 : Hid _ := f6
      clear hr' hfr f6
      obtain ⟨p1, e1, rfl, g1⟩ := s1.strs
      obtain ⟨p2, e2, rfl, g2⟩ := s2.bytes
      obtain ⟨p3, e3, rfl, g3⟩ := s3.bytes
      have G1 : Hid _ := g1
      clear s1 s2 s3 g2 g3 g1
      by_cases hk2 : 4096 ≤ k
      · go_wp2
        go_ret
        exact ⟨⟨_, rfl, by omega, by omega, fun h => absurd h (by omega)⟩, ⟨_, rfl⟩⟩
      · by_cases hs2 : 1048576 < s
        · go_wp2
          go_ret
          exact ⟨⟨_, rfl, by omega, by omega, fun h => absurd h (by omega)⟩, ⟨_, rfl⟩⟩
        · by_cases hs3 : 1048576 < s + (128 + L.act.size + L.iss.size + L.sub.size + L.aud.size)
          · go_wp2
            go_quiet (fail)
            go_wp2
            go_ret
            exact ⟨⟨_, rfl, by omega, by omega, fun h => absurd h (by omega)⟩, by first | exact ⟨_, rfl⟩ | exact drewN_two _ _ _⟩
          · go_wp2
            go_quiet (fail)
            go_wp2
            go_quiet (fail)
            go_wp2
            go_loopw [1, 6] (fun tot i wr => ∃ (k s' n' : Nat), i = .int .i64 k ∧ k ≤ L.caps.length ∧ tot = .int .i64 s' ∧ s' ≤ 1152921504606846976 - 1 ∧ (s' ≤ 1048576 → s' = s + (128 + L.act.size + L.iss.size + L.sub.size + L.aud.size) + (L.nonce.length + L.sig.length) + capsSize (L.caps.take k)) ∧ wr = w.drewN n') (fun _ i _ => L.caps.length - (intOf i).toNat)
            case atStart => exact ⟨0, s + (128 + L.act.size + L.iss.size + L.sub.size + L.aud.size) + (L.nonce.length + L.sig.length), _, rfl, Nat.zero_le _, by go_num, by omega, fun _ => by simp [capsSize], World.drewN_drewN _ _ _⟩
            case round =>
              obtain ⟨k', s', n', rfl, hk', rfl, hs', hsum', rfl⟩ := hrel
              have HS' : Hid _ := hsum'
              clear hsum'
              have hdone : (1048576 < s' ∨ k' = L.caps.length) → (s' ≤ 1048576 → s' + tokSize r = total + tokSize t) := by
                intro h h2
                have e1 := HS'.out h2
                have e2 := HS.out (by omega)
                have e3 : k' = L.caps.length := by omega
                rw [e3, List.take_length] at e1
                simp only [tokSize, lvlSize] at e2
                omega
              have HD : Hid _ := hdone
              clear hdone
              by_cases hlt : k' < L.caps.length
              · by_cases hs4 : s' ≤ 1048576
                · obtain ⟨M1, o1, rfl, _, g1⟩ := G1.out (by omega)
                  have d1 := g1 k' hlt
                  have d2 : (L.caps[k']'hlt).size ≤ 140737488355328 := H6.out _ (List.getElem_mem hlt)
                  have d3 := capsSize_take L.caps k' hlt
                  have D3 : Hid _ := d3
                  clear g1 G1 H6 d3
                  go_wp2
                  exact ⟨⟨k' + 1, s' + (16 + (L.caps[k']'hlt).size), n', by go_num, by omega, by go_num, by omega, fun h => by have e1 := HS'.out (by omega); have e2 := D3.out; omega, rfl⟩, by simp [intOf]; omega⟩
                · go_wp2
                  exact ⟨⟨r, k + 1, s', n', trivial, HR.out, fun K hK => HFR.out K (by simp [hK]), rfl, by omega, by go_num, by omega, by simp at hkl; omega, HD.out (by omega), rfl⟩, by simp [intOf]; omega⟩
              · go_wp2
                exact ⟨⟨r, k + 1, s', n', trivial, HR.out, fun K hK => HFR.out K (by simp [hK]), rfl, by omega, by go_num, by omega, by simp at hkl; omega, HD.out (by omega), rfl⟩, by simp [intOf]; omega⟩
end Go.Proofs.Qxb6618615aDoor
