/-
  zzToOrrery: a deep copy.
-/
import Derived.Test.Qxb6618615aDoorClone
import Derived.Deep.RegionHeld3
import Derived.Deep.DrawnRows
namespace Go.Proofs.Qxb6618615aDoor
open Go.RowKit Go.Lib

/-- What the region of zzToOrrery reads. -/
def Src (w : World) (M o : Nat) (L : Lvl) (vc vn vp vs : Value) (w' : World) : Prop :=
  Below w.heap.size w w' ∧ w'.cell? ⟨M, o, none⟩ = some (.string L.act) ∧ w'.cell? ⟨M, o + 1, none⟩ = some (.string L.iss) ∧ w'.cell? ⟨M, o + 2, none⟩ = some (.string L.sub) ∧ w'.cell? ⟨M, o + 3, none⟩ = some (.string L.aud) ∧
      w'.cell? ⟨M, o + 4, none⟩ = some vc ∧ w'.cell? ⟨M, o + 5, none⟩ = some vn ∧ w'.cell? ⟨M, o + 6, none⟩ = some (.int .i64 L.exp) ∧ w'.cell? ⟨M, o + 7, none⟩ = some (.int .i64 L.depth) ∧
      w'.cell? ⟨M, o + 8, none⟩ = some vp ∧ w'.cell? ⟨M, o + 9, none⟩ = some vs
theorem Src.next {w : World} {M o : Nat} {L : Lvl} {vc vn vp vs : Value} {w1 w2 : World} (h : Src w M o L vc vn vp vs w1) (hM : M < w.heap.size) (hb : Below w1.heap.size w1 w2) : Src w M o L vc vn vp vs w2 := by
  obtain ⟨h0, c0, c1, c2, c3, c4, c5, c6, c7, c8, c9⟩ := h
  have hs := h0.size
  have hc : ∀ j, w2.cell? ⟨M, j, none⟩ = w1.cell? ⟨M, j, none⟩ := fun j => hb.cell (p := ⟨M, j, none⟩) (by show M < w1.heap.size; omega)
  exact ⟨h0.trans (hb.mono hs), (hc _).trans c0, (hc _).trans c1, (hc _).trans c2, (hc _).trans c3, (hc _).trans c4, (hc _).trans c5, (hc _).trans c6, (hc _).trans c7, (hc _).trans c8, (hc _).trans c9⟩

theorem New.mono {w w1 w2 : World} (h : Below w1.heap.size w1 w2) {b : Nat} (hb : New w w1 b) : New w w2 b := ⟨hb.1, Nat.lt_of_lt_of_le hb.2 h.size⟩
theorem New.back {w0 w1 w2 : World} (h : Below w0.heap.size w0 w1) {b : Nat} (hb : New w1 w2 b) : New w0 w2 b := ⟨Nat.le_trans h.size hb.1, hb.2⟩
theorem SliceAt.on {w w1 w2 : World} {v : Value} {xs : List Value} (s : SliceAt (New w w1) w1 v xs) (h : Below w1.heap.size w1 w2) : SliceAt (New w w2) w2 v xs :=
  (s.kept (kept_of_below h fun _ hb => hb.2)).mono fun _ hb => New.mono h hb
theorem TokAt.on {w w1 w2 : World} {v : Value} {t : List Lvl} (s : TokAt (New w w1) w1 t v) (h : Below w1.heap.size w1 w2) : TokAt (New w w2) w2 t v :=
  TokAt.mono (fun _ hb => New.mono h hb) (s.kept (kept_of_below h fun _ hb => hb.2))

theorem cloneC11 (ok : Nat → Prop) (l : List ByteArray) (v : Value) (w0 w1 : World) (hok : ∀ b, ok b → b < w0.heap.size) (hl : l.length ≤ 1048576) (s1 : SliceAt ok w0 v (sv l)) (hb : Below w0.heap.size w0 w1) :
    Calls Tryd.prog 11 #[v] w1 fun e w' => ∃ p n c, e = .returned (.slice p n c) ∧ SliceAt (New w0 w') w' (.slice p n c) (sv l) ∧ Below w1.heap.size w1 w' ∧ Below w0.heap.size w0 w' := by
  refine (clone11 ok l v w1 (fun b h => Nat.lt_of_lt_of_le (hok b h) hb.size) hl (s1.kept (kept_of_below hb hok))).mono ?_
  rintro e w' ⟨v', rfl, h1, h2⟩
  obtain ⟨p, c, rfl, _⟩ := h1.shape
  exact ⟨p, _, c, rfl, h1.mono fun _ h => New.back hb h, h2, hb.trans (h2.mono hb.size)⟩
theorem cloneC12 (ok : Nat → Prop) (l : List UInt8) (v : Value) (w0 w1 : World) (hok : ∀ b, ok b → b < w0.heap.size) (hl : l.length ≤ 1048576) (s1 : SliceAt ok w0 v (bv l)) (hb : Below w0.heap.size w0 w1) :
    Calls Tryd.prog 12 #[v] w1 fun e w' => ∃ p n c, e = .returned (.slice p n c) ∧ SliceAt (New w0 w') w' (.slice p n c) (bv l) ∧ Below w1.heap.size w1 w' ∧ Below w0.heap.size w0 w' := by
  refine (clone12 ok l v w1 (fun b h => Nat.lt_of_lt_of_le (hok b h) hb.size) hl (s1.kept (kept_of_below hb hok))).mono ?_
  rintro e w' ⟨v', rfl, h1, h2⟩
  obtain ⟨p, c, rfl, _⟩ := h1.shape
  exact ⟨p, _, c, rfl, h1.mono fun _ h => New.back hb h, h2, hb.trans (h2.mono hb.size)⟩

theorem tok_boxed {w w4 : World} {L : Lvl} {r : List Lvl} {vc vn vp vs : Value} (hw : w.heap.size ≤ w4.heap.size) (h1 : SliceAt (New w w4) w4 vc (sv L.caps)) (h2 : SliceAt (New w w4) w4 vn (bv L.nonce)) (h3 : SliceAt (New w w4) w4 vs (bv L.sig)) (h4 : TokAt (New w w4) w4 r vp) :
    TokAt (New w (w4.alloc (.cells #[.string L.act, .string L.iss, .string L.sub, .string L.aud, vc, vn, .int .i64 L.exp, .int .i64 L.depth, vp, vs] 44))) (w4.alloc (.cells #[.string L.act, .string L.iss, .string L.sub, .string L.aud, vc, vn, .int .i64 L.exp, .int .i64 L.depth, vp, vs] 44)) (L :: r) (.pointer (some ⟨w4.heap.size, 0, none⟩)) := by
  have hb : ∀ o : Obj, Below w4.heap.size w4 (w4.alloc o) := fun o => (Below.refl _ w4).alloc (Nat.le_refl _) o
  have hc : ∀ (cs : Array Value) (j : Nat), (w4.alloc (.cells cs 44)).cell? ⟨w4.heap.size, j, none⟩ = cs[j]? := fun cs j => cell_of_row _ _ _ cs 44 (0, 0) (heap_alloc_last w4 _)
  exact ⟨w4.heap.size, 0, vc, vn, vp, vs, rfl, ⟨hw, by simp⟩, hc _ 0, hc _ 1, hc _ 2, hc _ 3, hc _ 4, hc _ 5, hc _ 6, hc _ 7, hc _ 8, hc _ 9, h1.on (hb _), h2.on (hb _), h3.on (hb _), h4.on (hb _)⟩

def tokFits (t : List Lvl) : Prop := ∀ L ∈ t, L.caps.length ≤ 1048576 ∧ L.nonce.length ≤ 1048576 ∧ L.sig.length ≤ 1048576
def Orr7 (ok : Nat → Prop) (t : List Lvl) : Prop := ∀ (v : Value) (w0 w : World), (∀ b, ok b → b < w0.heap.size) → tokFits t → TokAt ok w0 t v → Below w0.heap.size w0 w →
    Calls Tryd.prog 7 #[v] w fun e w' => ∃ q, e = .returned (.pointer q) ∧ TokAt (New w0 w') w' t (.pointer q) ∧ Below w.heap.size w w' ∧ Below w0.heap.size w0 w'

set_option maxRecDepth 100000 in
set_option maxHeartbeats 4000000 in
theorem orr7 (ok : Nat → Prop) : ∀ (t : List Lvl), Orr7 ok t := by
  intro t
  induction t with
  | nil =>
    intro v w0 w hok hf hv hb
    cases (show v = .pointer none from hv)
    clear hf
    go_enter Tryd.func7, Tryd.ntmps7
    go_wp2
    go_ret
    exact ⟨_, rfl, rfl, Below.refl _ _, hb⟩
  | cons L r ih =>
    intro v w0 w hok0 hf hv0 hb
    have hok : ∀ b, ok b → b < w.heap.size := fun b h => Nat.lt_of_lt_of_le (hok0 b h) hb.size
    have hv := TokAt.kept (kept_of_below hb hok0) hv0
    obtain ⟨M, o, vc, vn, vp, vs, rfl, hM, c0, c1, c2, c3, c4, c5, c6, c7, c8, c9, s1, s2, s3, hr⟩ := hv
    have H0 : Src w M o L vc vn vp vs w := ⟨Below.refl _ _, c0, c1, c2, c3, c4, c5, c6, c7, c8, c9⟩
    obtain ⟨f1, f2, f3⟩ := hf L (by simp)
    have hfr : tokFits r := fun K hK => hf K (by simp [hK])
    have hMlt := hok M hM
    have HB : Hid _ := hb
    have HK : Hid _ := hok
    clear hf hok0 hb hv0 hok
    go_enter Tryd.func7, Tryd.ntmps7
    go_wp2
    go_region_held3 (fun w' => Below w.heap.size w w' ∧ w'.cell? ⟨M, o, none⟩ = some (.string L.act) ∧ w'.cell? ⟨M, o + 1, none⟩ = some (.string L.iss) ∧ w'.cell? ⟨M, o + 2, none⟩ = some (.string L.sub) ∧ w'.cell? ⟨M, o + 3, none⟩ = some (.string L.aud) ∧
      w'.cell? ⟨M, o + 4, none⟩ = some vc ∧ w'.cell? ⟨M, o + 5, none⟩ = some vn ∧ w'.cell? ⟨M, o + 6, none⟩ = some (.int .i64 L.exp) ∧ w'.cell? ⟨M, o + 7, none⟩ = some (.int .i64 L.depth) ∧
      w'.cell? ⟨M, o + 8, none⟩ = some vp ∧ w'.cell? ⟨M, o + 9, none⟩ = some vs) (first | exact Src.next H0 hMlt ((Below.refl _ _).drew) | exact Src.next H0 hMlt (Below.alloc (w := w4) b4 b4.size _) | exact Src.next H0 hMlt (by assumption)) (first
      | (go_at_call 11; with_reducible refine (cloneC11 ok L.caps vc w _ HK.out f1 s1 (And.left (by assumption))).mono ?_; rintro e w1 ⟨x1, n1, y1, rfl, p1, q1, b1⟩)
      | (go_at_call 12; with_reducible refine (cloneC12 ok L.nonce vn w _ HK.out f2 s2 (And.left (by assumption))).mono ?_; rintro e w2 ⟨x2, n2, y2, rfl, p2, q2, b2⟩)
      | (go_at_call 7; refine (ih vp w _ HK.out hfr hr (And.left (by assumption))).mono ?_; rintro e w3 ⟨v3, rfl, p3, q3, b3⟩)
      | (go_at_call 12; with_reducible refine (cloneC12 ok L.sig vs w _ HK.out f3 s3 (And.left (by assumption))).mono ?_; rintro e w4 ⟨x4, n4, y4, rfl, p4, q4, b4⟩))
    have hb := HB.out
    have B4 := Below.alloc (w := w4) b4 b4.size (.cells #[.string L.act, .string L.iss, .string L.sub, .string L.aud, .slice x1 n1 y1, .slice x2 n2 y2, .int .i64 L.exp, .int .i64 L.depth, .pointer v3, .slice x4 n4 y4] 44)
    have HE : Hid _ := tok_boxed (L := L) (r := r) b4.size (((p1.on q2).on q3).on q4) ((p2.on q3).on q4) p4 (p3.on q4)
    have HX : Hid _ := B4
    clear B4 p1 p2 p3 p4 q1 q2 q3 q4 b1 b2 b3
    go_wp2
    go_ret
    exact ⟨_, rfl, TokAt.mono (fun _ h => New.back hb h) HE.out, HX.out, hb.trans (HX.out.mono hb.size)⟩
end Go.Proofs.Qxb6618615aDoor
