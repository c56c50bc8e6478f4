/-
  The law.
-/
import Derived.Test.Qxb6618615aDoorLawA
namespace Go.Proofs.Qxb6618615aDoor
open Go.RowKit Go.Lib
set_option linter.unusedVariables false
set_option linter.unusedSimpArgs false

theorem Framed.trans {lo hi A : Nat} {a b c : World} (h : Framed lo hi A a b) (g : Framed lo hi A b c) : Framed lo hi A a c :=
  ⟨h.1.trans g.1, fun k h1 h2 h3 => (g.2 k (by have := h.1.size; omega) h2 h3).trans (h.2 k h1 h2 h3)⟩
theorem Anch.look {lo hi A : Nat} {w : World} {ts : List (List Lvl)} (h : Anch lo hi A w ts) (hs : hi ≤ w.heap.size) :
    ∃ pB cap, w.cell? ⟨A, 2, none⟩ = some (.slice pB ts.length cap) ∧ ∀ i (h : i < ts.length), ∃ B, pB = some ⟨B, 0, none⟩ ∧ TokAt (fun b => b < w.heap.size) w (ts[i]'h) (.pointer (some ⟨B, i * 10, none⟩)) := by
  obtain ⟨_, v, h1, _, h3⟩ := h
  rcases h3 with ⟨rfl, rfl⟩ | ⟨B, cap, rfl, _, hB, cs, g1, g2, g3, g4⟩
  · exact ⟨none, 0, h1, fun i hi => absurd hi (by simp)⟩
  · refine ⟨_, cap, h1, fun i hi' => ⟨B, rfl, ?_⟩⟩
    obtain ⟨row, r1, r2⟩ := g4 i hi'
    exact (r1.mono fun b hb => by omega).tok (by omega) r2
theorem ToksAt.at {ok : Nat → Prop} {w : World} {p : Option Addr} {n c k : Nat} {ts : List (List Lvl)} (h : ToksAt ok w (.slice p n c) ts) (hk : k < ts.length) : ∃ M o, p = some ⟨M, o, none⟩ ∧ TokAt ok w (ts[k]'hk) (.pointer (some ⟨M, o + k * 10, none⟩)) := by
  obtain ⟨p', c', e, _, g⟩ := h
  obtain ⟨M, o, e2, _, g2⟩ := g (by omega)
  cases e
  exact ⟨M, o, e2, g2 k hk⟩
theorem Framed.refl (lo hi A : Nat) (a : World) : Framed lo hi A a a := ⟨Below.refl _ _, fun _ _ _ _ => rfl⟩

set_option maxHeartbeats 4000000 in
set_option maxRecDepth 100000 in
theorem law3 (t : List Lvl) (ts : List (List Lvl)) (v0 : Value) (row : List Value) (u : TypeId) (e0 : Addr) (w : World) (hts : ToksAt (fun b => b < w.heap.size) w v0 ts) (ht : RowAt (fun b => b < w.heap.size) w t row)
    (hf : ∀ x ∈ ts, ∀ L ∈ x, L.fits 140737488355328) (hft : ∀ L ∈ t, L.fits 140737488355328) (hE : w.cell? ⟨0, 0, none⟩ = some (.iface u (.pointer (some e0)))) :
    Calls Tryd.prog 3 #[v0, .agg row.toArray] w fun e w' => e = .returned (.bool true) ∧ Below w.heap.size w w' := by
  have hb1 : Below w.heap.size w (w.alloc (.cells row.toArray 27)) := (Below.refl _ w).alloc (Nat.le_refl _) _
  have hE1 := (hb1.cell (p := ⟨0, 0, none⟩) (World.block_lt_of_cell? w ⟨0, 0, none⟩ hE)).trans hE
  have hT1 := row_boxed27 ht
  have hts1 := (hts.kept (kept_of_below hb1 fun _ h => h)).mono (fun b h => Nat.lt_of_lt_of_le h hb1.size)
  obtain ⟨p, c, rfl⟩ := hts.slice
  have H0 : Hid (0 < w.heap.size) := World.block_lt_of_cell? w ⟨0, 0, none⟩ hE
  obtain ⟨w1, hw1⟩ : ∃ w1, w1 = w.alloc (.cells row.toArray 27) := ⟨_, rfl⟩
  rw [← hw1] at hb1 hE1 hT1 hts1
  have HB1 : Hid (Below w.heap.size w w1) := hb1
  have HE1 : Hid (w1.cell? ⟨0, 0, none⟩ = some (.iface u (.pointer (some e0)))) := hE1
  have HT1 : Hid (TokAt (fun b => b < w1.heap.size) w1 t (.pointer (some ⟨w.heap.size, 0, none⟩))) := hT1
  have HTS : Hid (ToksAt (fun b => b < w1.heap.size) w1 (.slice p ts.length c) ts) := hts1
  have HFS : Hid (∀ x ∈ ts, ∀ L ∈ x, L.fits 140737488355328) := hf
  have HFT : Hid (∀ L ∈ t, L.fits 140737488355328) := hft
  have HS1 : Hid (w1.heap.size = w.heap.size + 1) := by
    show _ = _
    rw [hw1]; simp
  have hw1' := hw1
  obtain ⟨L, r, vc, vn, vp, vs, e1, rfl, h3, h4, h5, h6⟩ := ht
  obtain ⟨_, _, rfl, -⟩ := h3.strs
  obtain ⟨_, _, rfl, -⟩ := h4.bytes
  obtain ⟨_, _, rfl, -⟩ := h5.bytes
  obtain ⟨_, rfl⟩ := h6.pointer
  obtain ⟨len, HL⟩ : ∃ len, Hid (ts.length = len) := ⟨_, rfl⟩
  clear hb1 hE1 hT1 hts1 hf hft hts hE h3 h4 h5 h6 e1 hw1'
  unfold rowOf at *
  rw [HL.out] at HTS ⊢
  by_cases hlen : len ≤ 1024
  case neg =>
    have hlen' : (1024 : Int) < len := by omega
    clear hlen
    go_enter Tryd.func3, Tryd.ntmps3
    go_wp2
    go_ret
    rw [← hw1]
    exact ⟨rfl, HB1.out⟩
  go_enter Tryd.func3, Tryd.ntmps3
  go_wp2_with fail
  rw [← hw1]
  clear hw1
  have HTS' := HTS.out
  rw [← HL.out] at HTS' hlen
  have H4 := toksSize4 (fun b => b < w1.heap.size) ts _ w1 HTS' HFS.out hlen
  rw [HL.out] at H4 hlen
  refine H4.mono ?_
  clear H4 HTS'
  rintro e w' ⟨⟨r1, rfl, T1⟩, n1, rfl⟩
  obtain ⟨q1, rfl⟩ : ∃ q : Nat, r1 = q := ⟨r1.toNat, by have := T1.1; omega⟩
  have H5 := tokSize5 (fun b => b < w1.heap.size) t (.pointer (some ⟨w.heap.size, 0, none⟩)) q1 (w1.drewN n1) (TokAt.kept (w := w1) (w' := w1.drewN n1) (fun _ _ => rfl) HT1.out) HFT.out (by have := T1.2.1; omega)
  have HT4 : Hid (ToldAll ts q1) := T1
  have HH5 : Hid (Calls Tryd.prog 5 #[.pointer (some ⟨w.heap.size, 0, none⟩), .int .i64 q1] (w1.drewN n1) fun e w' => (∃ r : Int, e = .returned (.int .i64 r) ∧ Told q1 t r) ∧ ∃ n, w' = (w1.drewN n1).drewN n) := H5
  clear H5 T1
  go_wp2_with fail
  refine HH5.out.mono ?_
  rintro e w' ⟨⟨r2, rfl, T2⟩, n2, rfl⟩
  clear HH5
  obtain ⟨w2, hw2⟩ : ∃ w2, w2 = (w1.drewN n1).drewN n2 := ⟨_, rfl⟩
  have hh2 : w2.heap = w1.heap := by rw [hw2]; rfl
  have HB2 : Hid (Below w.heap.size w w2) := by
    show Below _ _ _
    rw [hw2]
    exact ⟨HB1.out.os, HB1.out.tape, HB1.out.output, HB1.out.size, HB1.out.block⟩
  have hk2 : Kept (fun b => b < w1.heap.size) w1 w2 := fun b _ => by rw [hh2]
  have hts2 := HTS.out.kept hk2
  have hT2 := TokAt.kept hk2 HT1.out
  have hE2 := (World.cell?_of_block (w := w1) (w' := w2) (a := ⟨0, 0, none⟩) (by rw [hh2])).trans HE1.out
  have hs2 := HS1.out
  rw [← hh2] at hts2 hT2 hs2
  have HTS2 : Hid (ToksAt (fun b => b < w2.heap.size) w2 (.slice p len c) ts) := hts2
  have HT2 : Hid (TokAt (fun b => b < w2.heap.size) w2 t (.pointer (some ⟨w.heap.size, 0, none⟩))) := hT2
  have HE2 : Hid (w2.cell? ⟨0, 0, none⟩ = some (.iface u (.pointer (some e0)))) := hE2
  have HS2 : Hid (w2.heap.size = w.heap.size + 1) := hs2
  rw [← hw2]
  clear HTS HT1 HE1 HS1 HB1 hts2 hT2 hE2 hs2 hk2 hh2 hw2
  by_cases hr2 : r2 ≤ 1048576
  case neg =>
    have hr2' : 1048576 < r2 := by omega
    clear T2 hr2
    go_wp2
    go_ret
    exact ⟨rfl, HB2.out⟩
  obtain ⟨g1, g2⟩ := T2.2.2 hr2
  obtain ⟨g3, g4⟩ := HT4.out.2.2 (by omega)
  have HGT : Hid (Good t ∧ tokFits t) := good_of t HFT.out (by omega)
  have HGS : Hid (∀ x ∈ ts, Good x ∧ tokFits x) := fun x hx => good_of x (HFS.out x hx) (by have := tok_le ts x hx; omega)
  have HLT : Hid (t.length ≤ 4096) := g1
  have HLS : Hid (∀ x ∈ ts, x.length ≤ 4096) := g3
  clear T2 HT4 g1 g2 g3 g4
  have hlist := list6 (fun b => b < w2.heap.size) ts (.slice p len c) w2 HTS2.out (fun _ h => h) (fun x hx => (HGS.out x hx).2) (by rw [HL.out]; exact hlen)
  have H6 : Hid (Calls Tryd.prog 6 #[.slice p len c] w2 fun e w' => ∃ v', e = .returned v' ∧ Below w2.heap.size w2 w' ∧ ProvAt w2.heap.size w'.heap.size w' v' ts) := hlist
  clear hlist
  go_wp2_with fail
  refine H6.out.mono ?_
  rintro e w3 ⟨v3, rfl, hb3, hp3⟩
  clear H6
  have hshape : ∃ p n c, v3 = .slice p n c := by
    rcases hp3 with ⟨rfl, _⟩ | ⟨B, cap, rfl, _⟩
    · exact ⟨_, _, _, rfl⟩
    · exact ⟨_, _, _, rfl⟩
  obtain ⟨p3, n3, c3, rfl⟩ := hshape
  have HP3 : Hid (ProvAt w2.heap.size w3.heap.size w3 (.slice p3 n3 c3) ts) := hp3
  have HB3 : Hid (Below w2.heap.size w2 w3) := hb3
  clear hp3 hb3
  go_wp2_with fail
  have hb4 : Below w3.heap.size w3 (w3.alloc (.cells #[.slice none 0 0, .slice none 0 0, .slice p3 n3 c3] 34)) := (Below.refl _ w3).alloc (Nat.le_refl _) _
  have hs4 : (w3.alloc (.cells #[.slice none 0 0, .slice none 0 0, .slice p3 n3 c3] 34)).heap.size = w3.heap.size + 1 := by simp
  have hA4 : Anch w2.heap.size w3.heap.size w3.heap.size (w3.alloc (.cells #[.slice none 0 0, .slice none 0 0, .slice p3 n3 c3] 34)) ts := anch_new HP3.out
  obtain ⟨w4, hw4⟩ : ∃ w4, w4 = w3.alloc (.cells #[.slice none 0 0, .slice none 0 0, .slice p3 n3 c3] 34) := ⟨_, rfl⟩
  rw [← hw4] at hb4 hs4 hA4 ⊢
  have hs3 := HB3.out.size
  have hb4' : Below w2.heap.size w2 w4 := HB3.out.trans (hb4.mono hs3)
  refine (orr7 (fun b => b < w2.heap.size) t (.pointer (some ⟨w.heap.size, 0, none⟩)) w4 w4 (fun b h => by omega) HGT.out.2 (TokAt.kept (kept_of_below hb4' fun _ h => h) HT2.out) (Below.refl _ _)).mono ?_
  rintro e w5 ⟨q, rfl, hq, hb5, _⟩
  have hs5 := hb5.size
  obtain ⟨lo, hlo⟩ : ∃ lo, w2.heap.size = lo := ⟨_, rfl⟩
  obtain ⟨hi, hhi⟩ : ∃ hi, w3.heap.size = hi := ⟨_, rfl⟩
  have hb5' : Below lo w2 w5 := hlo ▸ hb4'.trans (hb5.mono (by omega))
  have hwlo : w.heap.size + 1 = lo := by rw [← hlo, HS2.out]
  have HB5 : Hid (Below w.heap.size w w5) := HB2.out.trans (hb5'.mono (by omega))
  have hA5 : Anch w2.heap.size w3.heap.size w3.heap.size w5 ts := hA4.kept (fun b hb => hb5.block b (by omega)) (hb5.block _ (by omega))
  have hq5 : TokAt (fun b => hi < b ∧ b < w5.heap.size) w5 t (.pointer q) := TokAt.mono (fun b h => ⟨by have := h.1; omega, h.2⟩) hq
  have hts5 := HTS2.out.kept (kept_of_below (B := lo) hb5' fun _ h => hlo ▸ h)
  have hT5 := TokAt.kept (kept_of_below (B := lo) hb5' fun _ h => hlo ▸ h) HT2.out
  have hE5 := (hb5'.cell (p := ⟨0, 0, none⟩) (by show 0 < lo; omega)).trans HE2.out
  have hsz : hi < w5.heap.size := by omega
  have hlohi : lo ≤ hi := by omega
  rw [hlo] at hA5 hts5 hT5
  rw [hhi] at hA5
  have HA5 : Hid (Anch lo hi hi w5 ts) := hA5
  have HQ5 : Hid (TokAt (fun b => hi < b ∧ b < w5.heap.size) w5 t (.pointer q)) := hq5
  have HTS5 : Hid (ToksAt (fun b => b < lo) w5 (.slice p len c) ts) := hts5
  have HT5 : Hid (TokAt (fun b => b < lo) w5 t (.pointer (some ⟨w.heap.size, 0, none⟩))) := hT5
  have HE5 : Hid (w5.cell? ⟨0, 0, none⟩ = some (.iface u (.pointer (some e0)))) := hE5
  have HSZ : Hid (hi < w5.heap.size ∧ lo ≤ hi ∧ w.heap.size < lo) := ⟨hsz, hlohi, by omega⟩
  rw [hhi]
  clear hb4 hs4 hA4 hb4' hq hb5 hs5 hb5' hA5 hq5 hts5 hT5 hE5 hsz hlohi HTS2 HT2 HE2 HS2 HB2 HP3 HB3 hs3 hw4 hlo hhi hwlo
  go_wp2
  go_loopw [8, 9] (fun a b wr => ∃ k m n : Nat, b = .int .i64 k ∧ k ≤ len ∧ a = .int .i64 m ∧ m ≤ k ∧ Hid (m = many t (ts.take k)) ∧ wr = w5.drewN n) (fun _ b _ => len - (intOf b).toNat)
  case atStart => exact ⟨0, 0, 0, rfl, Nat.zero_le _, rfl, Nat.le_refl _, rfl, rfl⟩
  case round =>
    obtain ⟨k, m, n, rfl, hk, rfl, hm, HM, rfl⟩ := hrel
    by_cases hlt : k < len
    · have hkl : k < ts.length := by rw [HL.out]; exact hlt
      obtain ⟨M, o, rfl, g2⟩ := HTS5.out.at hkl
      have G := TokAt.kept (w := w5) (w' := w5.drewN n) (fun _ _ => rfl) g2
      have H8 := tokEq8 (fun b => b < lo) (ts[k]'hkl) t _ _ (w5.drewN n) G (TokAt.kept (w := w5) (w' := w5.drewN n) (fun _ _ => rfl) HT5.out) (HFS.out _ (List.getElem_mem hkl)) HFT.out (HLS.out _ (List.getElem_mem hkl))
      rw [alike_comm] at H8
      have HC := many_take t ts k hkl
      clear g2 G
      cases ha : alike t (ts[k]'hkl) with
      | true =>
        rw [ha] at H8 HC
        rw [if_pos rfl] at HC
        have HC' : Hid (many t (ts.take (k + 1)) = many t (ts.take k) + 1) := HC
        have HH8 : Hid (Calls Tryd.prog 8 #[.pointer (some ⟨M, o + k * 10, none⟩), .pointer (some ⟨w.heap.size, 0, none⟩)] (w5.drewN n) fun e w' => e = .returned (.bool true) ∧ ∃ n', w' = (w5.drewN n).drewN n') := H8
        clear H8 HC ha
        go_wp2_with fail
        refine HH8.out.mono ?_
        rintro e w' ⟨rfl, n', rfl⟩
        clear HH8
        go_wp2
        exact ⟨⟨k + 1, m + 1, n + n', by go_num, by omega, by go_num, by omega, by show _ = _; rw [HC'.out, HM.out], rfl⟩, by simp [intOf]; omega⟩
      | false =>
        rw [ha] at H8 HC
        rw [if_neg (by simp)] at HC
        have HC' : Hid (many t (ts.take (k + 1)) = many t (ts.take k) + 0) := HC
        have HH8 : Hid (Calls Tryd.prog 8 #[.pointer (some ⟨M, o + k * 10, none⟩), .pointer (some ⟨w.heap.size, 0, none⟩)] (w5.drewN n) fun e w' => e = .returned (.bool false) ∧ ∃ n', w' = (w5.drewN n).drewN n') := H8
        clear H8 HC ha
        go_wp2_with fail
        refine HH8.out.mono ?_
        rintro e w' ⟨rfl, n', rfl⟩
        clear HH8
        go_wp2
        exact ⟨⟨k + 1, m, n + n', by go_num, by omega, rfl, by omega, HM.out.trans HC'.out.symm, rfl⟩, by simp [intOf]; omega⟩
    · obtain rfl : k = len := by omega
      have HM' : Hid (m = many t ts) := by
        show m = _
        rw [HM.out, List.take_of_length_le (by rw [HL.out]; omega)]
      clear hlt HM
      obtain ⟨w6, hw6⟩ : ∃ w6, w6 = w5.drewN n := ⟨_, rfl⟩
      have hh6 : w6.heap = w5.heap := by rw [hw6]; rfl
      have hk6 : ∀ ok : Nat → Prop, Kept ok w5 w6 := fun ok b _ => by rw [hh6]
      have HB6 : Hid (Below w.heap.size w w6) := by
        show Below _ _ _
        rw [hw6]
        exact ⟨HB5.out.os, HB5.out.tape, HB5.out.output, HB5.out.size, HB5.out.block⟩
      have HA6 : Hid (Anch lo hi hi w6 ts) := HA5.out.kept (fun b _ => by rw [hh6]) (by rw [hh6])
      have hq6 := TokAt.kept (hk6 _) HQ5.out
      rw [← hh6] at hq6
      have HQ6 : Hid (TokAt (fun b => hi < b ∧ b < w6.heap.size) w6 t (.pointer q)) := hq6
      have HTS6 : Hid (ToksAt (fun b => b < lo) w6 (.slice p k c) ts) := HTS5.out.kept (hk6 _)
      have HT6 : Hid (TokAt (fun b => b < lo) w6 t (.pointer (some ⟨w.heap.size, 0, none⟩))) := TokAt.kept (hk6 _) HT5.out
      have HE6 : Hid (w6.cell? ⟨0, 0, none⟩ = some (.iface u (.pointer (some e0)))) := (World.cell?_of_block (w := w5) (w' := w6) (a := ⟨0, 0, none⟩) (by rw [hh6])).trans HE5.out
      have hsz6 := HSZ.out
      rw [← hh6] at hsz6
      have HSZ6 : Hid (hi < w6.heap.size ∧ lo ≤ hi ∧ w.heap.size < lo) := hsz6
      rw [← hw6]
      clear HB5 HA5 hq6 HQ5 HTS5 HT5 HE5 hsz6 HSZ hh6 hk6 hw6
      go_wp2
      go_loopw [10, 11, 12] (fun a b s wr => ∃ (cur : List (List Lvl)) (j y : Nat) (f : Bool), a = .int .i64 y ∧ b = .bool f ∧ s = .int .i64 j ∧ j ≤ k + 1 ∧ y ≤ j ∧ Hid (f = false → y = j) ∧ Hid (Framed lo hi hi w6 wr) ∧ Hid (Mid lo hi hi t ts cur y wr) ∧ Hid (f = true → ∀ i (h : i < cur.length), alike t (cur[i]'h) = false)) (fun _ _ s _ => k + 1 - (intOf s).toNat)
      case atStart =>
        exact ⟨ts, 0, 0, false, rfl, rfl, rfl, by omega, Nat.le_refl _, fun _ => rfl, Framed.refl _ _ _ _, ⟨HA6.out, rfl, rfl, by rw [HL.out]; omega, fun x hx => (HGS.out x hx).1⟩, fun h => by cases h⟩
      case round =>
        obtain ⟨cur, j, y, f, rfl, rfl, rfl, hj, hy, HYJ, HFR, HMID, HND⟩ := hrel
        have HZ7 : Hid (hi < wr.heap.size) := by
          show hi < _
          have := HFR.out.1.size
          have := HSZ6.out.1
          omega
        have HQ7 : Hid (TokAt (fun b => b < wr.heap.size) wr t (.pointer q)) := TokAt.mono (fun b h => by have := HFR.out.1.size; omega) (TokAt.kept (w' := wr) (fun b h => HFR.out.2 b h.2 (by omega) (by omega)) HQ6.out)
        have HE7 : Hid (wr.cell? ⟨0, 0, none⟩ = some (.iface u (.pointer (some e0)))) := (HFR.out.1.cell (p := ⟨0, 0, none⟩) (by show 0 < lo; have := HSZ6.out; omega)).trans HE6.out
        cases f with
        | false =>
          obtain rfl : y = j := HYJ.out rfl
          by_cases hjk : y ≤ k
          · have hjk' : (y : Int) ≤ k := by omega
            have h9 := remove9 lo hi hi t cur (.pointer q) u e0 wr HSZ6.out.2.1 (by have := HSZ6.out; omega) HZ7.out HGT.out.1 HMID.out.2.2.2.2 HQ7.out HMID.out.1 HMID.out.2.2.2.1 HE7.out
            have H9 : Hid (Calls Tryd.prog 9 #[.pointer (some ⟨hi, 0, none⟩), .pointer q] wr fun e w' => Removed lo hi hi t cur (.iface u (.pointer (some e0))) e w' ∧ Framed lo hi hi wr w') := h9
            clear h9
            go_wp2_with fail
            refine H9.out.mono ?_
            rintro e w' ⟨hrem, hfr⟩
            clear H9
            have HFR' : Hid (Framed lo hi hi w6 w') := HFR.out.trans hfr
            clear hfr
            rcases hrem with ⟨rfl, hno, hA⟩ | ⟨rfl, i, hi', hyes, hA⟩
            · have HMID' : Hid (Mid lo hi hi t ts cur y w') := ⟨hA, HMID.out.2⟩
              have HNO : Hid (∀ i (h : i < cur.length), alike t (cur[i]'h) = false) := hno
              clear hno hA
              go_wp2
              exact ⟨⟨cur, y + 1, y, true, rfl, rfl, by go_num, by omega, by omega, (fun h => by cases h), HFR', HMID', fun _ => HNO.out⟩, by simp [intOf]; omega⟩
            · have HMID' : Hid (Mid lo hi hi t ts (cur.eraseIdx i) (y + 1) w') := HMID.out.one hi' hyes hA
              clear hyes hA
              go_wp2
              exact ⟨⟨cur.eraseIdx i, y + 1, y + 1, false, by go_num, rfl, by go_num, by omega, by omega, fun _ => rfl, HFR', HMID', fun h => by cases h⟩, by simp [intOf]; omega⟩
          · exfalso
            have h1 := HMID.out.2.2.1
            have h2 := many_le t ts
            rw [HL.out] at h2
            omega
        | true =>
          obtain ⟨e1, e2⟩ := HMID.out.done (HND.out rfl)
          obtain rfl : y = m := e1.trans HM'.out.symm
          have HBF : Hid (Below w.heap.size w wr) := HB6.out.trans (HFR.out.1.mono (by have := HSZ6.out; omega))
          have HTS7 : Hid (ToksAt (fun b => b < lo) wr (.slice p k c) ts) := HTS6.out.kept (kept_of_below HFR.out.1 fun _ h => h)
          have HT7 : Hid (TokAt (fun b => b < lo) wr t (.pointer (some ⟨w.heap.size, 0, none⟩))) := TokAt.kept (kept_of_below HFR.out.1 fun _ h => h) HT6.out
          obtain ⟨pB, cap, hcell, hcur⟩ := HMID.out.1.look (by have := HZ7.out; omega)
          have HLO : Hid (lo ≤ wr.heap.size) := by
            show lo ≤ _
            have := HZ7.out
            have := HSZ6.out
            omega
          obtain ⟨cl, HCL⟩ : ∃ cl, Hid (cur.length = cl) := ⟨_, rfl⟩
          rw [HCL.out] at hcell
          have hcl : cl ≤ 1024 := by rw [← HCL.out]; exact HMID.out.2.2.2.1
          have HCU : Hid (∀ i (h : i < cur.length), ∃ B, pB = some ⟨B, 0, none⟩ ∧ TokAt (fun b => b < wr.heap.size) wr (cur[i]'h) (.pointer (some ⟨B, i * 10, none⟩))) := hcur
          have HRE : Hid (cur = rest t ts) := e2
          clear hcur e1 e2 HND HYJ HE7 HQ7 HMID HFR HSZ6 HE6 HT6 HTS6 HQ6 HA6 HB6
          rcases Classical.em ((j : Int) ≤ k) with hjk | hjk
          · go_wp2
            go_loopw [13, 14] (fun a b w8 => ∃ i z n : Nat, b = .int .i64 i ∧ i ≤ k ∧ a = .int .i64 z ∧ z ≤ i ∧ Hid (z = (rest t (ts.take i)).length) ∧ w8 = wr.drewN n) (fun _ b _ => k - (intOf b).toNat)
            case atStart => exact ⟨0, 0, 0, rfl, Nat.zero_le _, rfl, Nat.le_refl _, rfl, rfl⟩
            case round =>
              obtain ⟨i, z, n', rfl, hik, rfl, hzi, HZ, rfl⟩ := hrel
              by_cases hlt : i < k
              · have hil : i < ts.length := by rw [HL.out]; exact hlt
                obtain ⟨M, o, rfl, g2⟩ := HTS7.out.at hil
                have G := TokAt.kept (w := wr) (w' := wr.drewN n') (fun _ _ => rfl) g2
                have H8 := tokEq8 (fun b => b < lo) (ts[i]'hil) t _ _ (wr.drewN n') G (TokAt.kept (w := wr) (w' := wr.drewN n') (fun _ _ => rfl) HT7.out) (HFS.out _ (List.getElem_mem hil)) HFT.out (HLS.out _ (List.getElem_mem hil))
                rw [alike_comm] at H8
                have HC := rest_take t ts i hil
                clear G
                cases ha : alike t (ts[i]'hil) with
                | true =>
                  rw [ha] at H8 HC
                  rw [if_pos rfl] at HC
                  have HC' : Hid ((rest t (ts.take (i + 1))).length = (rest t (ts.take i)).length + 0) := HC
                  have HH8 : Hid (Calls Tryd.prog 8 #[.pointer (some ⟨M, o + i * 10, none⟩), .pointer (some ⟨w.heap.size, 0, none⟩)] (wr.drewN n') fun e w' => e = .returned (.bool true) ∧ ∃ n'', w' = (wr.drewN n').drewN n'') := H8
                  clear H8 HC ha g2
                  go_wp2_with fail
                  refine HH8.out.mono ?_
                  rintro e w' ⟨rfl, n'', rfl⟩
                  clear HH8
                  go_wp2
                  exact ⟨⟨i + 1, z, n' + n'', by go_num, by omega, rfl, by omega, HZ.out.trans HC'.out.symm, rfl⟩, by simp [intOf]; omega⟩
                | false =>
                  have hat := rest_at t ts i hil ha
                  rw [← HZ.out, ← HRE.out] at hat
                  obtain ⟨hzc, hzv⟩ := List.getElem?_eq_some_iff.1 hat
                  rw [ha] at H8 HC
                  rw [if_neg (by simp)] at HC
                  have HC' : Hid ((rest t (ts.take (i + 1))).length = (rest t (ts.take i)).length + 1) := HC
                  have HH8 : Hid (Calls Tryd.prog 8 #[.pointer (some ⟨M, o + i * 10, none⟩), .pointer (some ⟨w.heap.size, 0, none⟩)] (wr.drewN n') fun e w' => e = .returned (.bool false) ∧ ∃ n'', w' = (wr.drewN n').drewN n'') := H8
                  obtain ⟨B, rfl, hB⟩ := HCU.out z hzc
                  rw [hzv] at hB
                  have hG2 := TokAt.mono (ok' := fun b => b < wr.heap.size) (fun b h => by have := HLO.out; omega) g2
                  have h10 : ∀ w9 : World, w9.heap = wr.heap → Calls Tryd.prog 10 #[.pointer (some ⟨B, z * 10, none⟩), .pointer (some ⟨M, o + i * 10, none⟩)] w9 fun e w' => e = .returned (.bool true) ∧ ∃ m, w' = w9.drewN m := fun w9 hw9 => by
                    have := sameTok10 (fun b => b < wr.heap.size) (ts[i]'hil) (ts[i]'hil) _ _ w9 (TokAt.kept (w := wr) (w' := w9) (fun _ _ => by rw [hw9]) hB) (TokAt.kept (w := wr) (w' := w9) (fun _ _ => by rw [hw9]) hG2) (HFS.out _ (List.getElem_mem hil)) (HFS.out _ (List.getElem_mem hil)) (HLS.out _ (List.getElem_mem hil))
                    rwa [alike_iff.2 rfl] at this
                  have H10 : Hid (∀ w9 : World, w9.heap = wr.heap → Calls Tryd.prog 10 #[.pointer (some ⟨B, z * 10, none⟩), .pointer (some ⟨M, o + i * 10, none⟩)] w9 fun e w' => e = .returned (.bool true) ∧ ∃ m, w' = w9.drewN m) := h10
                  have hzcl : z < cl := by rw [← HCL.out]; exact hzc
                  clear H8 HC ha g2 hat hzv hB hG2 h10 hzc
                  have z1 : (0 : Int) ≤ z := by omega
                  have z2 : (z : Int) < cl := by omega
                  have z3 : ¬ (cl : Int) ≤ z := by omega
                  have z3' : decide ((cl : Int) ≤ z) = false := decide_eq_false z3
                  have z4 : (0 : Int) ≤ i := by omega
                  have z5 : (i : Int) < k := by omega
                  go_wp2_with fail
                  refine HH8.out.mono ?_
                  rintro e w' ⟨rfl, n'', rfl⟩
                  clear HH8
                  go_wp2
                  go_quiet (first | (go_at_call 10; exact quiet_sum (H10.out _ (by rfl))))
                  go_wp2
                  exact ⟨⟨i + 1, z + 1, _, by go_num, by omega, by go_num, by omega, by show _ = _; rw [HC'.out, HZ.out], rfl⟩, by simp [intOf]; omega⟩
              · obtain rfl : i = k := by omega
                have hzcl : z = cl := by
                  rw [HZ.out, List.take_of_length_le (by rw [HL.out]; omega), ← HRE.out, HCL.out]
                subst hzcl
                have HBX : Hid (Below w.heap.size w (wr.drewN n')) := ⟨HBF.out.os, HBF.out.tape, HBF.out.output, HBF.out.size, HBF.out.block⟩
                clear HZ
                go_wp2
                go_ret
                exact ⟨by first | rfl | exact ret_b (by simp), HBX.out⟩
          · have hjk' : (k : Int) < j := by omega
            clear hjk
            go_wp2
            go_loopw [13, 14] (fun a b w8 => ∃ i z n : Nat, b = .int .i64 i ∧ i ≤ k ∧ a = .int .i64 z ∧ z ≤ i ∧ Hid (z = (rest t (ts.take i)).length) ∧ w8 = wr.drewN n) (fun _ b _ => k - (intOf b).toNat)
            case atStart => exact ⟨0, 0, 0, rfl, Nat.zero_le _, rfl, Nat.le_refl _, rfl, rfl⟩
            case round =>
              obtain ⟨i, z, n', rfl, hik, rfl, hzi, HZ, rfl⟩ := hrel
              by_cases hlt : i < k
              · have hil : i < ts.length := by rw [HL.out]; exact hlt
                obtain ⟨M, o, rfl, g2⟩ := HTS7.out.at hil
                have G := TokAt.kept (w := wr) (w' := wr.drewN n') (fun _ _ => rfl) g2
                have H8 := tokEq8 (fun b => b < lo) (ts[i]'hil) t _ _ (wr.drewN n') G (TokAt.kept (w := wr) (w' := wr.drewN n') (fun _ _ => rfl) HT7.out) (HFS.out _ (List.getElem_mem hil)) HFT.out (HLS.out _ (List.getElem_mem hil))
                rw [alike_comm] at H8
                have HC := rest_take t ts i hil
                clear G
                cases ha : alike t (ts[i]'hil) with
                | true =>
                  rw [ha] at H8 HC
                  rw [if_pos rfl] at HC
                  have HC' : Hid ((rest t (ts.take (i + 1))).length = (rest t (ts.take i)).length + 0) := HC
                  have HH8 : Hid (Calls Tryd.prog 8 #[.pointer (some ⟨M, o + i * 10, none⟩), .pointer (some ⟨w.heap.size, 0, none⟩)] (wr.drewN n') fun e w' => e = .returned (.bool true) ∧ ∃ n'', w' = (wr.drewN n').drewN n'') := H8
                  clear H8 HC ha g2
                  go_wp2_with fail
                  refine HH8.out.mono ?_
                  rintro e w' ⟨rfl, n'', rfl⟩
                  clear HH8
                  go_wp2
                  exact ⟨⟨i + 1, z, n' + n'', by go_num, by omega, rfl, by omega, HZ.out.trans HC'.out.symm, rfl⟩, by simp [intOf]; omega⟩
                | false =>
                  have hat := rest_at t ts i hil ha
                  rw [← HZ.out, ← HRE.out] at hat
                  obtain ⟨hzc, hzv⟩ := List.getElem?_eq_some_iff.1 hat
                  rw [ha] at H8 HC
                  rw [if_neg (by simp)] at HC
                  have HC' : Hid ((rest t (ts.take (i + 1))).length = (rest t (ts.take i)).length + 1) := HC
                  have HH8 : Hid (Calls Tryd.prog 8 #[.pointer (some ⟨M, o + i * 10, none⟩), .pointer (some ⟨w.heap.size, 0, none⟩)] (wr.drewN n') fun e w' => e = .returned (.bool false) ∧ ∃ n'', w' = (wr.drewN n').drewN n'') := H8
                  obtain ⟨B, rfl, hB⟩ := HCU.out z hzc
                  rw [hzv] at hB
                  have hG2 := TokAt.mono (ok' := fun b => b < wr.heap.size) (fun b h => by have := HLO.out; omega) g2
                  have h10 : ∀ w9 : World, w9.heap = wr.heap → Calls Tryd.prog 10 #[.pointer (some ⟨B, z * 10, none⟩), .pointer (some ⟨M, o + i * 10, none⟩)] w9 fun e w' => e = .returned (.bool true) ∧ ∃ m, w' = w9.drewN m := fun w9 hw9 => by
                    have := sameTok10 (fun b => b < wr.heap.size) (ts[i]'hil) (ts[i]'hil) _ _ w9 (TokAt.kept (w := wr) (w' := w9) (fun _ _ => by rw [hw9]) hB) (TokAt.kept (w := wr) (w' := w9) (fun _ _ => by rw [hw9]) hG2) (HFS.out _ (List.getElem_mem hil)) (HFS.out _ (List.getElem_mem hil)) (HLS.out _ (List.getElem_mem hil))
                    rwa [alike_iff.2 rfl] at this
                  have H10 : Hid (∀ w9 : World, w9.heap = wr.heap → Calls Tryd.prog 10 #[.pointer (some ⟨B, z * 10, none⟩), .pointer (some ⟨M, o + i * 10, none⟩)] w9 fun e w' => e = .returned (.bool true) ∧ ∃ m, w' = w9.drewN m) := h10
                  have hzcl : z < cl := by rw [← HCL.out]; exact hzc
                  clear H8 HC ha g2 hat hzv hB hG2 h10 hzc
                  have z1 : (0 : Int) ≤ z := by omega
                  have z2 : (z : Int) < cl := by omega
                  have z3 : ¬ (cl : Int) ≤ z := by omega
                  have z3' : decide ((cl : Int) ≤ z) = false := decide_eq_false z3
                  have z4 : (0 : Int) ≤ i := by omega
                  have z5 : (i : Int) < k := by omega
                  go_wp2_with fail
                  refine HH8.out.mono ?_
                  rintro e w' ⟨rfl, n'', rfl⟩
                  clear HH8
                  go_wp2
                  go_quiet (first | (go_at_call 10; exact quiet_sum (H10.out _ (by rfl))))
                  go_wp2
                  exact ⟨⟨i + 1, z + 1, _, by go_num, by omega, by go_num, by omega, by show _ = _; rw [HC'.out, HZ.out], rfl⟩, by simp [intOf]; omega⟩
              · obtain rfl : i = k := by omega
                have hzcl : z = cl := by
                  rw [HZ.out, List.take_of_length_le (by rw [HL.out]; omega), ← HRE.out, HCL.out]
                subst hzcl
                have HBX : Hid (Below w.heap.size w (wr.drewN n')) := ⟨HBF.out.os, HBF.out.tape, HBF.out.output, HBF.out.size, HBF.out.block⟩
                clear HZ
                go_wp2
                go_ret
                exact ⟨by first | rfl | exact ret_b (by simp), HBX.out⟩
end Go.Proofs.Qxb6618615aDoor
