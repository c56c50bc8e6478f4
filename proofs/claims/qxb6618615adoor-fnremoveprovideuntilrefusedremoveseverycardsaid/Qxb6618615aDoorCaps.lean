/-
  appendSigned's closure: the caps.
-/
import Derived.Test.Qxb6618615aDoorNest
namespace Go.Proofs.Qxb6618615aDoor
open Go.RowKit Go.Lib
set_option linter.unusedVariables false
set_option linter.unusedSimpArgs false

/-- A string's bytes in new memory. -/
theorem conv24 (src : TypeId) (hsrc : Tryd.prog.underlying src = some .string) (s : ByteArray) (w : World) : ∃ c w', (convert src 24 (.string s)).run Tryd.prog w = .ok (.slice (some ⟨w.heap.size, 0, none⟩) s.size c) w' ∧ w'.heap.size = w.heap.size + 1 ∧ w.grownBy w' none ∧
    SliceAt (fun b => b = w.heap.size) w' (.slice (some ⟨w.heap.size, 0, none⟩) s.size c) (bv s.data.toList) := by
  have h := Go.Lib.run_convert_string_bytes (P := Tryd.prog) w src 24 5 s hsrc Tryd.underlying24 Tryd.underlying5
  refine ⟨_, _, h, bytesWorld_size w 5 s, ⟨rfl, rfl, rfl, by rw [bytesWorld_size]; omega, fun k hk _ => bytesWorld_at_old w 5 s k hk⟩, .inr ⟨w.heap.size, 0, grownCap w s.size 0 5, ?_, rfl, fun k hk => ?_⟩⟩
  · rw [bv_length]; rfl
  · have hk' : k < s.data.toList.length := by rw [bv_length] at hk; exact hk
    have := bytesWorld_cell w 5 s k hk'
    rw [Nat.zero_add, this, bv_get, List.getD_eq_getElem?_getD, List.getElem?_eq_getElem hk']
    rfl

theorem own_lt {B : Nat} {w : World} {v : Value} {bs : List UInt8} (h : Own B w v bs) : ∀ k, v.ownBlock = some k → B ≤ k ∧ k < w.heap.size := World.ownsRow.lt h
theorem fields_built {w1 : World} {b : Value} (vs : List Value) (fs : List (List UInt8)) (c : Nat) (hl : vs.length = fs.length) (hb : ∀ k, b.ownBlock = some k → k < w1.heap.size)
    (hs : ∀ k (h : k < vs.length) (h2 : k < fs.length), SliceAt (fun x => x < w1.heap.size ∧ b.ownBlock ≠ some x) w1 (vs[k]'h) (bv (fs[k]'h2))) :
    FieldsAt (fun x => x < (w1.alloc (.cells vs.toArray 24)).heap.size ∧ b.ownBlock ≠ some x) (w1.alloc (.cells vs.toArray 24)) (.slice (some ⟨w1.heap.size, 0, none⟩) fs.length c) fs := by
  have hB : Below w1.heap.size w1 (w1.alloc (.cells vs.toArray 24)) := (Below.refl _ w1).alloc (Nat.le_refl _) _
  refine ⟨w1.heap.size, c, vs, rfl, ⟨by simp, fun e => by have := hb _ e; omega⟩, hl, fun k hk => ?_, fun k hk hk2 => ?_⟩
  · rw [cell_of_row _ _ _ vs.toArray 24 (0, 0) (heap_alloc_last w1 _)]
    simp [hk]
  · exact ((hs k hk hk2).kept (kept_of_below hB fun _ h => h.1)).mono fun x h => ⟨by have := hB.size; omega, h.2⟩
theorem step_grown {w w' : World} {v : Value} (h : w.grownBy w' none) : Step w v w' v := ⟨⟨h.os, h.tape, h.output, h.size, fun k hk _ => h.block k hk (by simp)⟩, fun _ h => .inl h⟩
theorem Own.step {B : Nat} {w w' : World} {v : Value} {bs : List UInt8} (h : Own B w v bs) (hg : w.grownBy w' none) : Own B w' v bs := World.ownsRow.kept h hg (by cases hv : v.ownBlock <;> simp)

def capB : List ByteArray → List (List UInt8)
  | [] => []
  | c :: r => c.data.toList :: capB r
theorem capB_append (a b : List ByteArray) : capB (a ++ b) = capB a ++ capB b := by
  induction a with
  | nil => rfl
  | cons c r ih => simp [capB, ih]
theorem capB_take (caps : List ByteArray) (k : Nat) (h : k < caps.length) : flds (capB (caps.take (k + 1))) = flds (capB (caps.take k)) ++ fld (caps[k]'h).data.toList := by
  rw [List.take_succ_eq_append_getElem h, capB_append, flds_append]
  simp [capB, flds]
theorem capB_length_take (caps : List ByteArray) (k : Nat) : (flds (capB (caps.take k))).length ≤ (flds (capB caps)).length := by
  conv => rhs; rw [← List.take_append_drop k caps, capB_append, flds_append]
  simp

set_option maxHeartbeats 8000000 in
set_option maxRecDepth 100000 in
theorem caps25 (B X M o : Nat) (vc : Value) (caps : List ByteArray) (b : Value) (bs : List UInt8) (w : World) (hX : w.cell? ⟨X, 0, none⟩ = some (.pointer (some ⟨M, o, none⟩))) (hc : w.cell? ⟨M, o + 4, none⟩ = some vc) (hs : SliceAt (fun x => x < B) w vc (sv caps))
    (hown : Own B w b bs) (hBw : B ≤ w.heap.size) (hlim : bs.length + (flds (capB caps)).length ≤ 1000000000) (hcl : caps.length ≤ 1048576) :
    Calls Tryd.prog 25 #[b, .pointer (some ⟨X, 0, none⟩)] w (App B w b bs (flds (capB caps))) := by
  obtain ⟨p, c, rfl, h1⟩ := hs.strs
  obtain ⟨len, HL⟩ : ∃ len, Hid (caps.length = len) := ⟨_, rfl⟩
  rw [HL.out] at hc hcl
  have H1 : Hid (0 < caps.length → ∃ M o, p = some ⟨M, o, none⟩ ∧ M < B ∧ ∀ k (h : k < caps.length), w.cell? ⟨M, o + k, none⟩ = some (.string (caps[k]'h))) := h1
  have HO : Hid (Own B w b bs) := hown
  have HLim : Hid (bs.length + (flds (capB caps)).length ≤ 1000000000) := hlim
  clear h1 hs hown hlim
  go_enter Tryd.func25, Tryd.ntmps25
  go_wp2
  go_loopw [0, 5, 11] (fun v _ i wr => ∃ k : Nat, i = .int .i64 k ∧ k ≤ len ∧ Hid (Own B wr v (bs ++ flds (capB (caps.take k)))) ∧ Hid (Step w b wr v)) (fun _ _ i _ => len - (intOf i).toNat)
  case atStart => exact ⟨0, rfl, Nat.zero_le _, by show Own B w b _; simpa [flds, capB] using HO.out, Step.refl w b⟩
  case round =>
    obtain ⟨k, rfl, hk, G1, G2⟩ := hrel
    by_cases hlt : k < len
    · have hkc : k < caps.length := by rw [HL.out]; exact hlt
      obtain ⟨M', o', rfl, hM', g⟩ := H1.out (by omega)
      have hsz := G2.out.1.size
      have cF := (G2.out.below HO.out hBw).cell (p := ⟨M', o' + k, none⟩) hM' |>.trans (g k hkc)
      have HT : Hid _ := capB_take caps k hkc
      have hl1 := HLim.out
      have hl2 := capB_length_take caps (k + 1)
      rw [HT.out] at hl2
      simp only [List.length_append, fld, be8_length] at hl2
      have hm : (caps[k]'hkc).size ≤ 1000000000 := by
        have : (caps[k]'hkc).data.toList.length = (caps[k]'hkc).size := rfl
        omega
      obtain ⟨cc, w1, hrun, hs1, hg1, hb1⟩ := conv24 9 Tryd.underlying9 (caps[k]'hkc) wr
      have HG1 : Hid (wr.grownBy w1 none) := hg1
      have HB1 : Hid (SliceAt (fun b => b = wr.heap.size) w1 (.slice (some ⟨wr.heap.size, 0, none⟩) (caps[k]'hkc).size cc) (bv (caps[k]'hkc).data.toList)) := hb1
      clear g hg1 hb1
      go_wp2_with fail
      have hown := own_lt G1.out
      have hF := fields_built (w1 := w1) (b := u0) [.slice (some ⟨wr.heap.size, 0, none⟩) (caps[k]'hkc).size cc] [(caps[k]'hkc).data.toList] 1 rfl (fun j hj => by have := hown j hj; omega) (fun j hj hj2 => by
        have e : j = 0 := by simp at hj; exact hj
        subst e
        exact HB1.out.mono fun x hx => ⟨by subst hx; omega, fun e => by subst hx; have := hown _ e; omega⟩)
      rw [hs1] at hF
      have hO1 := (G1.out.step HG1.out).alloc (.cells [Value.slice (some ⟨wr.heap.size, 0, none⟩) (caps[k]'hkc).size cc].toArray 24)
      refine (fields23 B [(caps[k]'hkc).data.toList] _ u0 _ _ hO1 (by simp; omega) hF (by
        simp only [flds, fld, List.length_append, be8_length, List.append_nil]
        have : (caps[k]'hkc).data.toList.length = (caps[k]'hkc).size := rfl
        omega) (by simp)).mono ?_
      rintro e w2 ⟨v2, rfl, o2, s2⟩
      have O2 : Hid (Own B w2 v2 (bs ++ flds (capB (caps.take (k + 1))))) := by
        show Own B w2 v2 (bs ++ flds (capB (caps.take (k + 1))))
        rw [HT.out]
        simpa [flds] using o2
      have S2 : Hid (Step w b w2 v2) := ((G2.out.trans (step_grown HG1.out)).trans (Step.alloc _ _ _)).trans s2
      clear o2 s2 hO1 hF hown
      go_wp2
      exact ⟨⟨k + 1, by go_num, by omega, O2, S2⟩, by simp [intOf]; omega⟩
    · have HD : Hid (Own B wr u0 (bs ++ flds (capB caps))) := by
        have h := G1.out
        rw [List.take_of_length_le (by rw [HL.out]; omega)] at h
        exact h
      go_wp2
      go_ret
      exact ⟨_, rfl, HD.out, G2.out⟩
end Go.Proofs.Qxb6618615aDoor
