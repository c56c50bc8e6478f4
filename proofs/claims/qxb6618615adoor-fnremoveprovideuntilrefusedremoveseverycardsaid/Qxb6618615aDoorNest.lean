/-
  appendNested.
-/
import Derived.Test.Qxb6618615aDoorFields
import Derived.Deep.RegionHeld3
namespace Go.Proofs.Qxb6618615aDoor
open Go.RowKit Go.Lib
set_option linter.unusedVariables false
set_option linter.unusedSimpArgs false

theorem setCell_row {w : World} {b o : Nat} {v : Value} {cs : Array Value} {e : TypeId} {fr : Nat × Nat} (h : w.heap[b]? = some (.cells cs e fr)) :
    (w.setCell ⟨b, o, none⟩ v).heap[b]? = some (.cells (cs.setIfInBounds o v) e fr) := by
  simp [World.setCell, Array.getElem?_modify, h]
theorem set_take (l : List Value) (o : Nat) (v : Value) (h : o < l.length) : (l.set o v).take (o + 1) = l.take o ++ [v] := by
  rw [List.set_eq_take_append_cons_drop, if_pos h, List.take_append, List.length_take, Nat.min_eq_left (by omega), List.take_of_length_le (by simp; omega)]
  simp
theorem set_drop (l : List Value) (o n : Nat) (v : Value) (h : o < n) : (l.set o v).drop n = l.drop n := by
  rw [List.drop_set, if_pos h]
theorem setCells_row (b : Nat) : ∀ (vs : List Value) (o : Nat) (w : World) (cs : Array Value) (e : TypeId) (fr : Nat × Nat), w.heap[b]? = some (.cells cs e fr) → o + vs.length ≤ cs.size →
    (w.setCells b o vs).heap[b]? = some (.cells (cs.toList.take o ++ vs ++ cs.toList.drop (o + vs.length)).toArray e fr)
  | [], o, w, cs, e, fr, h, _ => by simp [World.setCells, h]
  | v :: r, o, w, cs, e, fr, h, hl => by
    simp only [List.length_cons] at hl
    have hs : o < cs.toList.length := by simp; omega
    rw [World.setCells, setCells_row b r (o + 1) _ _ e fr (setCell_row h) (by simp; omega), Array.toList_setIfInBounds, set_take _ _ _ hs, set_drop _ _ _ _ (by omega)]
    simp only [List.append_assoc, List.cons_append, List.nil_append, List.length_cons]
    rw [show o + 1 + r.length = o + (r.length + 1) by omega]
theorem setCells_other (b : Nat) : ∀ (vs : List Value) (o : Nat) (w : World) (k : Nat), k ≠ b → (w.setCells b o vs).heap[k]? = w.heap[k]?
  | [], _, _, _, _ => rfl
  | v :: r, o, w, k, h => by
    rw [World.setCells, setCells_other b r (o + 1) _ k h]
    exact Below.heap_setCell w ⟨b, o, none⟩ v k h
theorem setCells_size (b : Nat) : ∀ (vs : List Value) (o : Nat) (w : World), (w.setCells b o vs).heap.size = w.heap.size
  | [], _, _ => rfl
  | v :: r, o, w => by rw [World.setCells, setCells_size b r (o + 1)]; simp
theorem setCells_rest (b : Nat) : ∀ (vs : List Value) (o : Nat) (w : World), (w.setCells b o vs).os = w.os ∧ (w.setCells b o vs).tape = w.tape ∧ (w.setCells b o vs).output = w.output
  | [], _, _ => ⟨rfl, rfl, rfl⟩
  | v :: r, o, w => by rw [World.setCells]; exact setCells_rest b r (o + 1) _

/-- A slice of one's own that is not nil: where it lies. -/
theorem Own.place {B : Nat} {w : World} {v : Value} {bs : List UInt8} (h : Own B w v bs) (h0 : 0 < bs.length) :
    ∃ g cap, v = .slice (some ⟨g, 0, none⟩) bs.length cap ∧ B ≤ g ∧ bs.length ≤ cap ∧ ∃ cur : Array Value, w.heap[g]? = some (.cells cur 5 (0, 0)) ∧ bs.length ≤ cur.size := by
  rcases h.2 with ⟨rfl, h1⟩ | ⟨g, cap, cur, rfl, hb, hg, h1, h2, h3, h4⟩
  · omega
  · exact ⟨g, cap, rfl, hb, h1, cur, hg, by omega⟩
theorem there_of_row {w : World} {g : Nat} {cur : Array Value} {e : TypeId} (hg : w.heap[g]? = some (.cells cur e (0, 0))) (o n : Nat) (h : o + n ≤ cur.size) : w.there g o n := by
  intro j hj
  rw [cell_of_row _ _ _ cur e (0, 0) hg]
  refine ⟨?_, ?_⟩
  · rw [Array.getElem?_eq_getElem (by omega)]; rfl
  · unfold World.frozen?
    rw [hg]; simp
/-- Eight bytes within are written anew. -/
theorem Own.patch {B : Nat} {w : World} {g n cap : Nat} {pre old post new : List UInt8} (h : Own B w (.slice (some ⟨g, 0, none⟩) n cap) (pre ++ old ++ post)) (hl : old.length = new.length) :
    Own B (w.setCells g pre.length (bv new)) (.slice (some ⟨g, 0, none⟩) n cap) (pre ++ new ++ post) := by
  obtain ⟨h0, h⟩ := h
  rcases h with ⟨h, _⟩ | ⟨g', cap', cur, h, hb, hg, h1, h2, h3, h4⟩
  · cases h
  · cases h
    have e : (pre ++ old ++ post).length = (pre ++ new ++ post).length := by simp [hl]
    rw [Nat.mul_one] at h3 h4
    have hlen : pre.length + (bv new).length ≤ cur.size := by
      simp only [List.length_append] at h1
      rw [bv_length]
      omega
    refine ⟨by simp, .inr ⟨g, cap, _, by rw [e], hb, setCells_row g _ _ w cur 5 (0, 0) hg hlen, by rw [← e]; exact h1, h2, ?_, ?_⟩⟩
    · simp only [bv_length] at hlen
      simp only [List.size_toArray, List.length_append, List.length_take, List.length_drop, Array.length_toList, bv_length]
      omega
    · have hcur : cur.toList = bv (pre ++ old ++ post) ++ cur.toList.drop (pre ++ old ++ post).length := by
        rw [← h4]
        exact (List.take_append_drop _ _).symm
      have ht : cur.toList.take pre.length = bv pre := by
        rw [hcur, bv_append, bv_append, List.append_assoc, List.append_assoc, List.take_append, List.take_of_length_le (by simp)]
        simp
      have hd : cur.toList.drop (pre.length + (bv new).length) = bv post ++ cur.toList.drop (pre ++ old ++ post).length := by
        conv => lhs; rw [hcur]
        rw [bv_append, show pre.length + (bv new).length = (bv (pre ++ old)).length by simp [hl], List.append_assoc, List.drop_left]
      rw [Nat.mul_one, ht, hd, bv_append, bv_append]
      simp only [List.toList_toArray]
      rw [← List.append_assoc, List.take_append]
      simp only [List.length_append, bv_length, List.append_assoc]
      rw [List.take_of_length_le (by simp), show pre.length + (new.length + post.length) - (pre.length + (new.length + post.length)) = 0 by omega]
      simp
theorem Step.patch {w : World} {v : Value} {g : Nat} (hv : v.ownBlock = some g) (o : Nat) (vs : List Value) : Step w v (w.setCells g o vs) v := by
  obtain ⟨h1, h2, h3⟩ := setCells_rest g vs o w
  refine ⟨⟨h1, h2, h3, by rw [setCells_size]; exact Nat.le_refl _, fun k _ hk => setCells_other g vs o w k fun e => hk (by rw [hv, e])⟩, fun _ h => .inl h⟩

set_option maxHeartbeats 8000000 in
set_option maxRecDepth 100000 in
theorem nestC24 (x : Value) (B : Nat) (new : List UInt8) (b : Value) (bs : List UInt8) (w : World) (hown : Own B w b bs) (hBw : B ≤ w.heap.size) (hlim : bs.length + 8 + new.length ≤ 1099511627776)
    (hc : ∀ w1 v1, Own B w1 v1 (bs ++ be8 0) → Step w b w1 v1 → Calls Tryd.prog 25 #[v1, x] w1 (App B w1 v1 (bs ++ be8 0) new)) :
    Calls Tryd.prog 24 #[b, .func (.func 25) #[] #[x]] w (App B w b bs (fld new)) := by
  obtain ⟨p, c, rfl⟩ := hown.slice
  have HC : Hid (∀ w1 v1, Own B w1 v1 (bs ++ be8 0) → Step w (.slice p bs.length c) w1 v1 → Calls Tryd.prog 25 #[v1, x] w1 (App B w1 v1 (bs ++ be8 0) new)) := hc
  obtain ⟨n, HN⟩ : ∃ n, Hid (bs.length = n) := ⟨_, rfl⟩
  have h27 := put27 B 0 (by omega) _ bs w hown hBw (by omega)
  rw [HN.out] at hlim h27 HC ⊢
  have H27 : Hid (Calls Tryd.prog 27 #[.agg #[], .slice p n c, .int .u64 0] w (App B w (.slice p n c) bs (be8 0))) := h27
  clear hown hc h27
  go_enter Tryd.func24, Tryd.ntmps24
  go_wp2_with fail
  refine H27.out.mono ?_
  rintro e w1 ⟨v1, rfl, o1, s1⟩
  have O1 : Hid (Own B w1 v1 (bs ++ be8 0)) := o1
  have S1 : Hid (Step w (.slice p n c) w1 v1) := s1
  clear o1 s1
  go_wp2_with fail
  refine (HC.out w1 v1 O1.out S1.out).mono ?_
  rintro e w2 ⟨v2, rfl, o2, s2⟩
  obtain ⟨g, cap, hv2, hBg, hcap, cur, hg, hcur⟩ := o2.place (by rw [List.length_append, List.length_append, be8_length]; omega)
  have hlen : (bs ++ be8 0 ++ new).length = n + 8 + new.length := by rw [List.length_append, List.length_append, be8_length, HN.out]
  rw [hlen] at hv2 hcap hcur
  subst hv2
  have ht := there_of_row hg n 8 (by omega)
  have HT : Hid (w2.drew.there g n 8) := ht
  have P2 := Own.patch (pre := bs) (old := be8 0) (new := be8 new.length) (post := new) (Own.alloc (Own.drew o2) (.cells #[] 61)) rfl
  rw [HN.out] at P2
  have S2 := ((S1.out.trans s2).trans ((Step.drew w2 _).trans (Step.alloc _ _ (.cells #[] 61)))).trans (Step.patch (g := g) rfl n (bv (be8 new.length)))
  obtain ⟨T, hT⟩ : ∃ T, n + 8 + new.length = T := ⟨_, rfl⟩
  obtain ⟨m, hm⟩ : ∃ m, new.length = m := ⟨_, rfl⟩
  rw [hm] at hT P2 S2 hlim hcap hcur
  rw [hT] at hcap hcur P2 S2
  rw [hm, hT]
  have O2 : Hid (Own B ((w2.drew.alloc (.cells #[] 61)).setCells g n (bv (be8 m))) (.slice (some ⟨g, 0, none⟩) T cap) (bs ++ be8 m ++ new)) := P2
  have S3 : Hid (Step w (.slice p n c) ((w2.drew.alloc (.cells #[] 61)).setCells g n (bv (be8 m))) (.slice (some ⟨g, 0, none⟩) T cap)) := S2
  have HM : Hid (new.length = m) := hm
  clear P2 o2 s2 O1 S1 HC H27 hg ht hlen S2
  have q1 : (0 : Int) ≤ (n : Int) := by omega
  have q2 : (n : Int) ≤ (T : Int) := by omega
  have q3 : (T : Int) ≤ (cap : Int) := by omega
  have q4 : IntKind.i64.wrap ((T : Int) - (n : Int)) = (T : Int) - (n : Int) := by
    simp [IntKind.wrap, IntKind.bits, IntKind.signed]; omega
  have q5 : IntKind.i64.wrap ((T : Int) - (n : Int) - 8) = (m : Int) := by
    simp [IntKind.wrap, IntKind.bits, IntKind.signed]; omega
  have q6 : IntKind.u64.wrap (m : Int) = (m : Int) := by
    simp [IntKind.wrap, IntKind.bits, IntKind.signed]; omega
  have q7 : ¬ cap = n := by omega
  have H28 : Hid (Calls Tryd.prog 28 #[.agg #[], .slice (some ⟨g, n, none⟩) (T - n) (cap - n), .int .u64 (m : Int)] w2.drew fun e w' => (∃ u, e = .returned u) ∧ w' = (w2.drew.alloc (.cells #[] 61)).setCells g n (bv (be8 m))) := put28 m g n (T - n) (cap - n) (by omega) (by omega) (by omega) w2.drew HT.out
  go_wp2
  go_region_held3 (fun _ => True) (trivial) (first | (go_at_call 28; with_reducible refine H28.out.mono ?_; rintro e w3 ⟨⟨u, rfl⟩, rfl⟩))
  go_wp2
  go_ret
  refine ⟨_, rfl, ?_, S3.out⟩
  have h := O2.out
  rw [← HM.out] at h ⊢
  rw [fld, ← List.append_assoc]
  exact h

set_option maxHeartbeats 8000000 in
set_option maxRecDepth 100000 in
theorem nestM24 (x : Value) (B : Nat) (new : List UInt8) (b : Value) (bs : List UInt8) (w : World) (hown : Own B w b bs) (hBw : B ≤ w.heap.size) (hlim : bs.length + 8 + new.length ≤ 1099511627776)
    (hc : ∀ w1 v1, Own B w1 v1 (bs ++ be8 0) → Step w b w1 v1 → Calls Tryd.prog 21 #[x, v1] w1 (App B w1 v1 (bs ++ be8 0) new)) :
    Calls Tryd.prog 24 #[b, .func (.func 21) #[x] #[]] w (App B w b bs (fld new)) := by
  obtain ⟨p, c, rfl⟩ := hown.slice
  have HC : Hid (∀ w1 v1, Own B w1 v1 (bs ++ be8 0) → Step w (.slice p bs.length c) w1 v1 → Calls Tryd.prog 21 #[x, v1] w1 (App B w1 v1 (bs ++ be8 0) new)) := hc
  obtain ⟨n, HN⟩ : ∃ n, Hid (bs.length = n) := ⟨_, rfl⟩
  have h27 := put27 B 0 (by omega) _ bs w hown hBw (by omega)
  rw [HN.out] at hlim h27 HC ⊢
  have H27 : Hid (Calls Tryd.prog 27 #[.agg #[], .slice p n c, .int .u64 0] w (App B w (.slice p n c) bs (be8 0))) := h27
  clear hown hc h27
  go_enter Tryd.func24, Tryd.ntmps24
  go_wp2_with fail
  refine H27.out.mono ?_
  rintro e w1 ⟨v1, rfl, o1, s1⟩
  have O1 : Hid (Own B w1 v1 (bs ++ be8 0)) := o1
  have S1 : Hid (Step w (.slice p n c) w1 v1) := s1
  clear o1 s1
  go_wp2_with fail
  refine (HC.out w1 v1 O1.out S1.out).mono ?_
  rintro e w2 ⟨v2, rfl, o2, s2⟩
  obtain ⟨g, cap, hv2, hBg, hcap, cur, hg, hcur⟩ := o2.place (by rw [List.length_append, List.length_append, be8_length]; omega)
  have hlen : (bs ++ be8 0 ++ new).length = n + 8 + new.length := by rw [List.length_append, List.length_append, be8_length, HN.out]
  rw [hlen] at hv2 hcap hcur
  subst hv2
  have ht := there_of_row hg n 8 (by omega)
  have HT : Hid (w2.drew.there g n 8) := ht
  have P2 := Own.patch (pre := bs) (old := be8 0) (new := be8 new.length) (post := new) (Own.alloc (Own.drew o2) (.cells #[] 61)) rfl
  rw [HN.out] at P2
  have S2 := ((S1.out.trans s2).trans ((Step.drew w2 _).trans (Step.alloc _ _ (.cells #[] 61)))).trans (Step.patch (g := g) rfl n (bv (be8 new.length)))
  obtain ⟨T, hT⟩ : ∃ T, n + 8 + new.length = T := ⟨_, rfl⟩
  obtain ⟨m, hm⟩ : ∃ m, new.length = m := ⟨_, rfl⟩
  rw [hm] at hT P2 S2 hlim hcap hcur
  rw [hT] at hcap hcur P2 S2
  rw [hm, hT]
  have O2 : Hid (Own B ((w2.drew.alloc (.cells #[] 61)).setCells g n (bv (be8 m))) (.slice (some ⟨g, 0, none⟩) T cap) (bs ++ be8 m ++ new)) := P2
  have S3 : Hid (Step w (.slice p n c) ((w2.drew.alloc (.cells #[] 61)).setCells g n (bv (be8 m))) (.slice (some ⟨g, 0, none⟩) T cap)) := S2
  have HM : Hid (new.length = m) := hm
  clear P2 o2 s2 O1 S1 HC H27 hg ht hlen S2
  have q1 : (0 : Int) ≤ (n : Int) := by omega
  have q2 : (n : Int) ≤ (T : Int) := by omega
  have q3 : (T : Int) ≤ (cap : Int) := by omega
  have q4 : IntKind.i64.wrap ((T : Int) - (n : Int)) = (T : Int) - (n : Int) := by
    simp [IntKind.wrap, IntKind.bits, IntKind.signed]; omega
  have q5 : IntKind.i64.wrap ((T : Int) - (n : Int) - 8) = (m : Int) := by
    simp [IntKind.wrap, IntKind.bits, IntKind.signed]; omega
  have q6 : IntKind.u64.wrap (m : Int) = (m : Int) := by
    simp [IntKind.wrap, IntKind.bits, IntKind.signed]; omega
  have q7 : ¬ cap = n := by omega
  have H28 : Hid (Calls Tryd.prog 28 #[.agg #[], .slice (some ⟨g, n, none⟩) (T - n) (cap - n), .int .u64 (m : Int)] w2.drew fun e w' => (∃ u, e = .returned u) ∧ w' = (w2.drew.alloc (.cells #[] 61)).setCells g n (bv (be8 m))) := put28 m g n (T - n) (cap - n) (by omega) (by omega) (by omega) w2.drew HT.out
  go_wp2
  go_region_held3 (fun _ => True) (trivial) (first | (go_at_call 28; with_reducible refine H28.out.mono ?_; rintro e w3 ⟨⟨u, rfl⟩, rfl⟩))
  go_wp2
  go_ret
  refine ⟨_, rfl, ?_, S3.out⟩
  have h := O2.out
  rw [← HM.out] at h ⊢
  rw [fld, ← List.append_assoc]
  exact h
end Go.Proofs.Qxb6618615aDoor
