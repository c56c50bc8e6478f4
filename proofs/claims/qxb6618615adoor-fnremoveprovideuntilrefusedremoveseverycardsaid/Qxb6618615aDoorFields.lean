/-
  appendFields, signedInt.
-/
import Derived.Test.Qxb6618615aDoorApp
namespace Go.Proofs.Qxb6618615aDoor
open Go.RowKit Go.Lib

/-- A field with its length ahead; fields, one behind the other. -/
def fld (f : List UInt8) : List UInt8 := be8 f.length ++ f
def flds : List (List UInt8) → List UInt8
  | [] => []
  | f :: r => fld f ++ flds r
theorem flds_append (a b : List (List UInt8)) : flds (a ++ b) = flds a ++ flds b := by
  induction a with
  | nil => rfl
  | cons f r ih => simp [flds, ih]
theorem flds_take (fs : List (List UInt8)) (k : Nat) (h : k < fs.length) : flds (fs.take (k + 1)) = flds (fs.take k) ++ be8 (fs[k]'h).length ++ fs[k]'h := by
  rw [List.take_succ_eq_append_getElem h, flds_append]; simp [flds, fld]
theorem flds_length_take (fs : List (List UInt8)) (k : Nat) : (flds (fs.take k)).length ≤ (flds fs).length := by
  conv => rhs; rw [← List.take_append_drop k fs, flds_append]
  simp

/-- The fields, in memory. -/
def FieldsAt (ok : Nat → Prop) (w : World) (v : Value) (fs : List (List UInt8)) : Prop :=
  ∃ (F c : Nat) (vs : List Value), v = .slice (some ⟨F, 0, none⟩) fs.length c ∧ ok F ∧ vs.length = fs.length ∧ (∀ k (h : k < vs.length), w.cell? ⟨F, 0 + k, none⟩ = some (vs[k]'h)) ∧ ∀ k (h : k < vs.length) (h2 : k < fs.length), SliceAt ok w (vs[k]'h) (bv (fs[k]'h2))

theorem app24 {ops : Array Oper} {rest : List Oper} {a : Act} {Q : Exit → Act → World → Prop} {d : Option Tmp} {s x : Operand} {pos : String} {af : Array Edge} (B : Nat) (w : World) (v : Value) (bs : List UInt8) (hown : Own B w v bs) (hBw : B ≤ w.heap.size)
    (ok : Nat → Prop) (xv : Value) (f : List UInt8) (hf : SliceAt ok w xv (bv f)) (hlim : bs.length + f.length ≤ 140737488355328) (hs : a.eval s = v) (hx : a.eval x = xv)
    (h : ∀ v' w', Own B w' v' (bs ++ f) → Step w v w' v' → wpList Tryd.prog ops Q rest (a.put d v') w') :
    wpList Tryd.prog ops Q ({ dst := d, op := .call { callee := .builtin .append, args := #[s, x], argTypes := #[24, 24] }, type := 24, pos := pos, after := af, guard := none } :: rest) a w := by
  obtain ⟨i0, hi, hz0, hz1, hz2⟩ := info5
  obtain ⟨p, c, rfl, hc⟩ := hf.shape
  rw [bv_length] at hx
  cases p with
  | none =>
    obtain ⟨h1, h2, h3⟩ := hf.none_zero
    have h4 : f = [] := List.eq_nil_of_length_eq_zero (by rwa [bv_length] at h2)
    subst h4 h3
    refine wpList_append_own_none rfl s x 24 rfl B 5 i0 1 Tryd.underlying24 hi v bs.length (bv bs) hs hown hx (h v w ?_ (Step.refl w v))
    rw [List.append_nil]; exact hown
  | some ad =>
    refine wpList_append_own_at w rfl s x 24 rfl B 5 i0 (.int .u8 0) 1 1 Tryd.underlying24 hi hz0 hz1 hz2 rfl (by decide) v bs.length (bv bs) hs hown ad f.length c (bv f) hx (by simp) ?_ (bv_one f) (by unfold maxLen; omega) (by omega) hBw ?_
    · intro j u hj
      have hjl : j < (bv f).length := (List.getElem?_eq_some_iff.1 hj).1
      obtain ⟨M, o, e, _, hcell⟩ := hc (by omega)
      cases e
      rw [Addr.add_lit, hcell j hjl, ← hj, List.getElem?_eq_getElem hjl]
    · intro v' w' g1 g2 _ g3
      refine h v' w' ?_ ⟨g2, fun k hk => ?_⟩
      · unfold Own
        rw [bv_append, List.length_append]
        exact g1
      · rcases g3 with e | e
        · exact .inl (e ▸ hk)
        · rw [e] at hk
          cases hk
          exact .inr (Nat.le_refl _)

set_option maxHeartbeats 8000000 in
set_option maxRecDepth 100000 in
theorem fields23 (B : Nat) (fs : List (List UInt8)) (fv b : Value) (bs : List UInt8) (w : World) (hown : Own B w b bs) (hBw : B ≤ w.heap.size) (hf : FieldsAt (fun x => x < w.heap.size ∧ b.ownBlock ≠ some x) w fv fs) (hlim : bs.length + (flds fs).length ≤ 1099511627776) (hfl : fs.length ≤ 1000) :
    Calls Tryd.prog 23 #[b, fv] w (App B w b bs (flds fs)) := by
  obtain ⟨F, c, vs, rfl, hF, hvl, h1, h2⟩ := hf
  obtain ⟨len, HL⟩ : ∃ len, Hid (fs.length = len) := ⟨_, rfl⟩
  have HV : Hid (vs.length = len) := hvl.trans HL.out
  rw [HL.out] at hfl ⊢
  have H1 : Hid (∀ k (h : k < vs.length), w.cell? ⟨F, 0 + k, none⟩ = some (vs[k]'h)) := h1
  have H2 : Hid (∀ k (h : k < vs.length) (h2 : k < fs.length), SliceAt (fun x => x < w.heap.size ∧ b.ownBlock ≠ some x) w (vs[k]'h) (bv (fs[k]'h2))) := h2
  have HF : Hid (F < w.heap.size ∧ b.ownBlock ≠ some F) := hF
  have HO : Hid (Own B w b bs) := hown
  have HLim : Hid (bs.length + (flds fs).length ≤ 1099511627776) := hlim
  clear hvl h1 h2 hF hown hlim
  go_enter Tryd.func23, Tryd.ntmps23
  go_wp2
  go_loopw [0, 6, 9] (fun v _ i wr => ∃ k : Nat, i = .int .i64 k ∧ k ≤ len ∧ Hid (Own B wr v (bs ++ flds (fs.take k))) ∧ Hid (Step w b wr v)) (fun _ _ i _ => len - (intOf i).toNat)
  case atStart => exact ⟨0, rfl, Nat.zero_le _, by show Own B w b _; simpa [flds] using HO.out, Step.refl w b⟩
  case round =>
    obtain ⟨k, rfl, hk, G1, G2⟩ := hrel
    by_cases hlt : k < len
    · have hkf : k < fs.length := by rw [HL.out]; exact hlt
      have hkv : k < vs.length := by rw [HV.out]; exact hlt
      have hKept := G2.out.kept (ok := fun x => x < w.heap.size ∧ b.ownBlock ≠ some x) (fun _ h => h)
      have cF := (hKept.cell (M := F) (o := 0 + k) HF.out).trans (H1.out k hkv)
      rw [Nat.zero_add] at cF
      have hS := H2.out k hkv hkf
      obtain ⟨p, c', e, _⟩ := hS.bytes
      rw [e] at cF hS
      have HS : Hid (SliceAt (fun x => x < w.heap.size ∧ b.ownBlock ≠ some x) w (.slice p (fs[k]'hkf).length c') (bv (fs[k]'hkf))) := hS
      have HT : Hid _ := flds_take fs k hkf
      have hl1 := HLim.out
      have hl2 := flds_length_take fs (k + 1)
      rw [HT.out] at hl2
      simp only [List.length_append, be8_length] at hl2
      have HLL : Hid (bs.length + (flds (fs.take k)).length + 8 + (fs[k]'hkf).length ≤ 1099511627776) := by show _ ≤ _; omega
      have hm : (fs[k]'hkf).length ≤ 1099511627776 := by omega
      have HBw : Hid (B ≤ w.heap.size) := hBw
      clear hl1 hl2 hKept e hS H1 H2
      go_wp2_with fail
      have hsz := G2.out.1.size
      refine (put27 B (fs[k]'hkf).length (by omega) u0 (bs ++ flds (fs.take k)) wr G1.out (by omega) (by rw [List.length_append]; have := HLL.out; omega)).mono ?_
      rintro e w1 ⟨v1, rfl, o1, s1⟩
      have hs1 := s1.1.size
      have S1 : Hid (Step w b w1 v1) := G2.out.trans s1
      have O1 : Hid (Own B w1 v1 (bs ++ flds (fs.take k) ++ be8 (fs[k]'hkf).length)) := o1
      have HS1 : Hid (SliceAt (fun x => x < w.heap.size ∧ b.ownBlock ≠ some x) w1 (.slice p (fs[k]'hkf).length c') (bv (fs[k]'hkf))) := HS.out.kept (S1.out.kept fun _ h => h)
      clear o1 s1 HS G1 G2 cF
      go_wp2_with (refine app24 B w1 v1 _ O1.out (by omega) _ _ (fs[k]'hkf) HS1.out (by simp only [List.length_append, be8_length]; have := HLL.out; omega) rfl rfl ?_; intro v2 w2 o2 s2)
      have HOwn : Own B w2 v2 (bs ++ flds (fs.take (k + 1))) := by
        rw [HT.out]; simpa only [List.append_assoc] using o2
      exact ⟨⟨k + 1, by go_num, by omega, HOwn, S1.out.trans s2⟩, by simp [intOf]; omega⟩
    · have HD : Hid (Own B wr u0 (bs ++ flds fs)) := by
        have h := G1.out
        rw [List.take_of_length_le (by rw [HL.out]; omega)] at h
        exact h
      go_wp2
      go_ret
      exact ⟨_, rfl, HD.out, G2.out⟩

/-- A number as it is signed. -/
def u64 (x : Int) : Nat := (x % 18446744073709551616).toNat
theorem u64_lt (x : Int) : u64 x < 18446744073709551616 := by unfold u64; omega
theorem u64_inj {x y : Int} (hx : -9223372036854775808 ≤ x ∧ x ≤ 9223372036854775807) (hy : -9223372036854775808 ≤ y ∧ y ≤ 9223372036854775807) (h : u64 x = u64 y) : x = y := by unfold u64 at h; omega

set_option maxHeartbeats 8000000 in
set_option maxRecDepth 100000 in
theorem int26 (B : Nat) (x : Int) (w : World) (hBw : B ≤ w.heap.size) :
    Calls Tryd.prog 26 #[.int .i64 x] w (App B w (.slice none 0 0) [] (be8 (u64 x))) := by
  have hw : IntKind.u64.wrap x = (u64 x : Int) := by
    simp [IntKind.wrap, IntKind.bits, IntKind.signed, u64]
    omega
  go_enter Tryd.func26, Tryd.ntmps26
  go_wp2_with fail
  refine (put27 B (u64 x) (u64_lt x) _ [] w (own_nil B w) hBw (by simp)).mono ?_
  rintro e w1 ⟨v1, rfl, o1, s1⟩
  go_wp2
  go_ret
  exact ⟨_, rfl, o1, s1⟩
end Go.Proofs.Qxb6618615aDoor
