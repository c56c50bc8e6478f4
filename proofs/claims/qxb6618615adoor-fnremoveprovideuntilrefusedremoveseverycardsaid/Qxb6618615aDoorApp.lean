/-
  What an appending call leaves; AppendUint64, PutUint64.
-/
import Derived.Test.Qxb6618615aDoorClone
import Derived.OwnWalk
import Derived.Deep.MidRow
import Derived.Laws.AppendOwnNone
namespace Go.Proofs.Qxb6618615aDoor
open Go.RowKit Go.Lib

/-- A slice of bytes that is one's own. -/
def Own (B : Nat) (w : World) (v : Value) (bs : List UInt8) : Prop := w.ownsRow B 5 1 v bs.length (bv bs)
/-- What an append may turn. -/
def Step (w : World) (v : Value) (w' : World) (v' : Value) : Prop := w.grownBy w' v.ownBlock ∧ ∀ k, v'.ownBlock = some k → v.ownBlock = some k ∨ w.heap.size ≤ k
/-- What an appending call leaves. -/
def App (B : Nat) (w : World) (v : Value) (bs new : List UInt8) (e : Ending) (w' : World) : Prop := ∃ v', e = .returned v' ∧ Own B w' v' (bs ++ new) ∧ Step w v w' v'

theorem Step.refl (w : World) (v : Value) : Step w v w v := ⟨⟨rfl, rfl, rfl, Nat.le_refl _, fun _ _ _ => rfl⟩, fun _ h => .inl h⟩
theorem Step.trans {w1 w2 w3 : World} {v1 v2 v3 : Value} (h : Step w1 v1 w2 v2) (k : Step w2 v2 w3 v3) : Step w1 v1 w3 v3 := by
  refine ⟨⟨k.1.os.trans h.1.os, k.1.tape.trans h.1.tape, k.1.output.trans h.1.output, Nat.le_trans h.1.size k.1.size, fun b hb hne => ?_⟩, fun b hb => ?_⟩
  · refine (k.1.block b (Nat.lt_of_lt_of_le hb h.1.size) fun e => ?_).trans (h.1.block b hb hne)
    rcases h.2 b e.symm with h2 | h2
    · exact hne h2.symm
    · omega
  · rcases k.2 b hb with h2 | h2
    · exact h.2 b h2
    · exact .inr (Nat.le_trans h.1.size h2)
theorem Step.alloc (w : World) (v : Value) (o : Obj) : Step w v (w.alloc o) v := ⟨World.grownBy_alloc w o _, fun _ h => .inl h⟩
theorem Step.drew (w : World) (v : Value) : Step w v w.drew v := ⟨⟨rfl, rfl, rfl, Nat.le_refl _, fun _ _ _ => rfl⟩, fun _ h => .inl h⟩
/-- What stands behind a step: every old block but the own one. -/
theorem Step.kept {w w' : World} {v v' : Value} (h : Step w v w' v') {ok : Nat → Prop} (hok : ∀ b, ok b → b < w.heap.size ∧ v.ownBlock ≠ some b) : Kept ok w w' := fun b hb => h.1.block b (hok b hb).1 fun e => (hok b hb).2 e.symm
theorem Step.below {B : Nat} {w w' : World} {v v' : Value} {bs : List UInt8} (h : Step w v w' v') (ho : Own B w v bs) (hB : B ≤ w.heap.size) : Below B w w' :=
  (Below.refl B w).grown h.1 hB fun k hk => (World.ownsRow.lt ho k hk).1
theorem Own.drew {B : Nat} {w : World} {v : Value} {bs : List UInt8} (h : Own B w v bs) : Own B w.drew v bs := h
theorem Own.alloc {B : Nat} {w : World} {v : Value} {bs : List UInt8} (h : Own B w v bs) (o : Obj) : Own B (w.alloc o) v bs := World.ownsRow.alloc h o
theorem Own.slice {B : Nat} {w : World} {v : Value} {bs : List UInt8} (h : Own B w v bs) : ∃ p c, v = .slice p bs.length c := by
  rcases h.2 with ⟨rfl, h0⟩ | ⟨g, cap, cur, rfl, _⟩
  · exact ⟨none, 0, by rw [h0]⟩
  · exact ⟨_, _, rfl⟩
theorem own_nil (B : Nat) (w : World) : Own B w (.slice none 0 0) [] := World.ownsRow_nil w B 5 1
/-- A slice of one's own as a slice. -/
theorem Own.sliceAt {B : Nat} {w : World} {v : Value} {bs : List UInt8} (h : Own B w v bs) : SliceAt (fun b => B ≤ b ∧ b < w.heap.size) w v (bv bs) := by
  have hc := h
  rcases h.2 with ⟨rfl, h0⟩ | ⟨g, cap, cur, rfl, hb, hg, h1, h2, h3, h4⟩
  · exact .inl ⟨by rw [List.eq_nil_of_length_eq_zero h0]; rfl, _, _, rfl, fun _ => rfl⟩
  · refine .inr ⟨g, 0, cap, by simp, ⟨hb, (Array.getElem?_eq_some_iff.1 hg).1⟩, fun k hk => ?_⟩
    have := World.ownsRow.cells hc (g := g) rfl k _ (List.getElem?_eq_getElem hk)
    rwa [Addr.add_lit] at this

/-- A number as eight bytes, the greatest first. -/
def be8 (v : Nat) : List UInt8 := [UInt8.ofNat (v / 72057594037927936), UInt8.ofNat (v / 281474976710656), UInt8.ofNat (v / 1099511627776), UInt8.ofNat (v / 4294967296), UInt8.ofNat (v / 16777216), UInt8.ofNat (v / 65536), UInt8.ofNat (v / 256), UInt8.ofNat v]
@[simp] theorem be8_length (v : Nat) : (be8 v).length = 8 := rfl
theorem be8_inj {a b : Nat} (ha : a < 18446744073709551616) (hb : b < 18446744073709551616) (h : be8 a = be8 b) : a = b := by
  simp only [be8, List.cons.injEq, and_true] at h
  obtain ⟨h0, h1, h2, h3, h4, h5, h6, h7⟩ := h
  have g : ∀ x y : Nat, UInt8.ofNat x = UInt8.ofNat y → x % 256 = y % 256 := fun x y e => by
    have := congrArg UInt8.toNat e
    simpa using this
  have := g _ _ h0; have := g _ _ h1; have := g _ _ h2; have := g _ _ h3; have := g _ _ h4; have := g _ _ h5; have := g _ _ h6; have := g _ _ h7
  omega
theorem be8_cells (v : Nat) (hv : v < 18446744073709551616) : bv (be8 v) = [Value.int .u8 ((v : Int) / 72057594037927936), Value.int .u8 ((v : Int) / 281474976710656 % 256), Value.int .u8 ((v : Int) / 1099511627776 % 256), Value.int .u8 ((v : Int) / 4294967296 % 256), Value.int .u8 ((v : Int) / 16777216 % 256), Value.int .u8 ((v : Int) / 65536 % 256), Value.int .u8 ((v : Int) / 256 % 256), Value.int .u8 ((v : Int) % 256)] := by
  have g : ∀ x : Nat, ((UInt8.ofNat x).toNat : Int) = (x : Int) % 256 := fun x => by rw [UInt8.toNat_ofNat']; omega
  simp only [bv, be8, List.map_cons, List.map_nil, g]
  congr 2
  omega
theorem bv_one (l : List UInt8) : ∀ u ∈ bv l, u.oneCell' = true := by
  intro u hu
  obtain ⟨b, _, rfl⟩ := List.mem_map.1 hu
  rfl

set_option maxHeartbeats 8000000 in
set_option maxRecDepth 100000 in
theorem put27 (B v : Nat) (hv : v < 18446744073709551616) (b : Value) (bs : List UInt8) (w : World) (hown : Own B w b bs) (hBw : B ≤ w.heap.size) (hlim : bs.length + 8 ≤ 140737488355328) :
    Calls Tryd.prog 27 #[.agg #[], b, .int .u64 v] w (App B w b bs (be8 v)) := by
  obtain ⟨i0, hi, hz0, hz1, hz2⟩ := info5
  have HC : Hid _ := be8_cells v hv
  have HO : Hid (w.ownsRow B 5 1 b bs.length (bv bs)) := hown
  clear hown
  go_enter Tryd.func27, Tryd.ntmps27
  go_wp2_with (at_builtin; refine wpList_append_own_at _ rfl _ _ 24 rfl B 5 i0 (.int .u8 0) 1 1 Tryd.underlying24 hi hz0 hz1 hz2 rfl (by decide) _ _ _ rfl ((HO.out.alloc _).alloc _) _ 8 8 [Value.int .u8 ((v : Int) / 72057594037927936), Value.int .u8 ((v : Int) / 281474976710656 % 256), Value.int .u8 ((v : Int) / 1099511627776 % 256), Value.int .u8 ((v : Int) / 4294967296 % 256), Value.int .u8 ((v : Int) / 16777216 % 256), Value.int .u8 ((v : Int) / 65536 % 256), Value.int .u8 ((v : Int) / 256 % 256), Value.int .u8 ((v : Int) % 256)] rfl rfl ?c1 ?c2 ?c3 ?c4 ?c5 ?_)
  case c1 =>
    intro j u hj
    match j, hj with
    | 0, hj => simp at hj; subst hj; simp [Addr.add]
    | 1, hj => simp at hj; subst hj; simp [Addr.add]
    | 2, hj => simp at hj; subst hj; simp [Addr.add]
    | 3, hj => simp at hj; subst hj; simp [Addr.add]
    | 4, hj => simp at hj; subst hj; simp [Addr.add]
    | 5, hj => simp at hj; subst hj; simp [Addr.add]
    | 6, hj => simp at hj; subst hj; simp [Addr.add]
    | 7, hj => simp at hj; subst hj; simp [Addr.add]
  case c2 => intro u hu; simp at hu; rcases hu with rfl | rfl | rfl | rfl | rfl | rfl | rfl | rfl <;> rfl
  case c3 => unfold maxLen; omega
  case c4 => omega
  case c5 => simp; omega
  intro v' w2 hown' hgrow _ hnew
  go_wp2
  go_ret
  refine ⟨v', rfl, ?_, ?_⟩
  · unfold Own
    rw [bv_append, HC.out, List.length_append, be8_length]
    exact hown'
  · refine ((Step.alloc w b _).trans (Step.alloc _ b _)).trans ⟨hgrow, fun k hk => ?_⟩
    rcases hnew with e | e
    · exact .inl (e ▸ hk)
    · rw [e] at hk
      cases hk
      exact .inr (by simp)

set_option maxHeartbeats 8000000 in
set_option maxRecDepth 100000 in
theorem put28 (v g at_ n c : Nat) (hv : v < 18446744073709551616) (hn : 8 ≤ n) (hn2 : n ≤ 140737488355328) (w : World) (ht : w.there g at_ 8) :
    Calls Tryd.prog 28 #[.agg #[], .slice (some ⟨g, at_, none⟩) n c, .int .u64 v] w fun e w' => (∃ u, e = .returned u) ∧ w' = (w.alloc (.cells #[] 61)).setCells g at_ (bv (be8 v)) := by
  have HC : Hid _ := be8_cells v hv
  have ht' := World.there_alloc ht (.cells #[] 61)
  obtain ⟨u0, c0⟩ := Option.isSome_iff_exists.1 (ht' 0 (by omega)).1
  obtain ⟨u1, c1⟩ := Option.isSome_iff_exists.1 (ht' 1 (by omega)).1
  obtain ⟨u2, c2⟩ := Option.isSome_iff_exists.1 (ht' 2 (by omega)).1
  obtain ⟨u3, c3⟩ := Option.isSome_iff_exists.1 (ht' 3 (by omega)).1
  obtain ⟨u4, c4⟩ := Option.isSome_iff_exists.1 (ht' 4 (by omega)).1
  obtain ⟨u5, c5⟩ := Option.isSome_iff_exists.1 (ht' 5 (by omega)).1
  obtain ⟨u6, c6⟩ := Option.isSome_iff_exists.1 (ht' 6 (by omega)).1
  obtain ⟨u7, c7⟩ := Option.isSome_iff_exists.1 (ht' 7 (by omega)).1
  have f0 := (ht' 0 (by omega)).2
  have f1 := (ht' 1 (by omega)).2
  have f2 := (ht' 2 (by omega)).2
  have f3 := (ht' 3 (by omega)).2
  have f4 := (ht' 4 (by omega)).2
  have f5 := (ht' 5 (by omega)).2
  have f6 := (ht' 6 (by omega)).2
  have f7 := (ht' 7 (by omega)).2
  rw [Nat.add_zero] at c0 f0
  clear ht ht'
  go_enter Tryd.func28, Tryd.ntmps28
  go_wp2
  go_end0
  refine ⟨⟨_, rfl⟩, ?_⟩
  rw [HC.out]
  rfl
end Go.Proofs.Qxb6618615aDoor
