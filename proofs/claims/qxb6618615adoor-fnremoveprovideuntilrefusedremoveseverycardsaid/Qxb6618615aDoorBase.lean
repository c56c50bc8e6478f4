/-
  What lies in memory: slices of values, levels of a token, a token down its chain; and when it stands.
-/
import Derived.Test.Qxb6618615aDoorRows
import Derived.WalkKit
import Derived.WalkSpells
import Derived.WalkLawsBesides
import Derived.RowKitTokens
import Derived.Deep.WholeRow
import Derived.Deep.LoopGhost
import Derived.Lib.ConvBytes
import Derived.Lib.AtoiErrMem
import Derived.BigQuiet
import Derived.Deep.QuietTactic
import Derived.Deep.RegionWith
import Derived.Maps.AppendAt
import Derived.Below
namespace Go.Proofs.Qxb6618615aDoor
open Go.RowKit Go.Lib
def intOf : Value → Int | .int _ q => q | _ => 0

/-- One level of a token: its own fields. -/
structure Lvl where
  act : ByteArray
  iss : ByteArray
  sub : ByteArray
  aud : ByteArray
  caps : List ByteArray
  nonce : List UInt8
  exp : Int
  depth : Int
  sig : List UInt8
def Lvl.tup (L : Lvl) : List ByteArray × List ByteArray × List (List UInt8) × List Int := ([L.act, L.iss, L.sub, L.aud], L.caps, [L.nonce, L.sig], [L.exp, L.depth])
theorem Lvl.tup_inj {L K : Lvl} (h : L.tup = K.tup) : L = K := by
  cases L; cases K; simp [Lvl.tup] at h; simp [h]
/-- Two tokens alike? -/
def alike (x y : List Lvl) : Bool := decide (x.map Lvl.tup = y.map Lvl.tup)
theorem alike_iff {x y : List Lvl} : alike x y = true ↔ x = y := by
  rw [alike, decide_eq_true_iff]
  exact ⟨fun h => (List.map_inj_right fun _ _ e => Lvl.tup_inj e).1 h, fun h => by rw [h]⟩

def bv (l : List UInt8) : List Value := l.map fun b => .int .u8 (b.toNat : Int)
def sv (l : List ByteArray) : List Value := l.map fun s => .string s
@[simp] theorem bv_length (l : List UInt8) : (bv l).length = l.length := by simp [bv]
@[simp] theorem sv_length (l : List ByteArray) : (sv l).length = l.length := by simp [sv]
theorem bv_get (l : List UInt8) (k : Nat) (h : k < (bv l).length) : (bv l)[k] = .int .u8 (((l[k]'(by simpa using h)).toNat : Nat) : Int) := by simp [bv]
theorem sv_get (l : List ByteArray) (k : Nat) (h : k < (sv l).length) : (sv l)[k] = .string (l[k]'(by simpa using h)) := by simp [sv]
theorem bv_append (a b : List UInt8) : bv (a ++ b) = bv a ++ bv b := by simp [bv]

/-- A slice whose cells are xs, in a block that is ok. -/
def SliceAt (ok : Nat → Prop) (w : World) (v : Value) (xs : List Value) : Prop :=
  (xs = [] ∧ ∃ p c, v = .slice p 0 c ∧ (p = none → c = 0)) ∨
  (∃ M o c, v = .slice (some ⟨M, o, none⟩) xs.length c ∧ ok M ∧ ∀ k (h : k < xs.length), w.cell? ⟨M, o + k, none⟩ = some (xs[k]'h))

/-- A pointer to a token, down its chain. -/
def TokAt (ok : Nat → Prop) (w : World) : List Lvl → Value → Prop
  | [], v => v = .pointer none
  | L :: r, v => ∃ M o vc vn vp vs, v = .pointer (some ⟨M, o, none⟩) ∧ ok M ∧
      w.cell? ⟨M, o, none⟩ = some (.string L.act) ∧ w.cell? ⟨M, o + 1, none⟩ = some (.string L.iss) ∧ w.cell? ⟨M, o + 2, none⟩ = some (.string L.sub) ∧ w.cell? ⟨M, o + 3, none⟩ = some (.string L.aud) ∧
      w.cell? ⟨M, o + 4, none⟩ = some vc ∧ w.cell? ⟨M, o + 5, none⟩ = some vn ∧ w.cell? ⟨M, o + 6, none⟩ = some (.int .i64 L.exp) ∧ w.cell? ⟨M, o + 7, none⟩ = some (.int .i64 L.depth) ∧
      w.cell? ⟨M, o + 8, none⟩ = some vp ∧ w.cell? ⟨M, o + 9, none⟩ = some vs ∧
      SliceAt ok w vc (sv L.caps) ∧ SliceAt ok w vn (bv L.nonce) ∧ SliceAt ok w vs (bv L.sig) ∧ TokAt ok w r vp

/-- A token's row of cells, and where its parts lie. -/
def rowOf (L : Lvl) (vc vn vp vs : Value) : List Value := [.string L.act, .string L.iss, .string L.sub, .string L.aud, vc, vn, .int .i64 L.exp, .int .i64 L.depth, vp, vs]
def RowAt (ok : Nat → Prop) (w : World) (t : List Lvl) (cs : List Value) : Prop :=
  ∃ L r vc vn vp vs, t = L :: r ∧ cs = rowOf L vc vn vp vs ∧ SliceAt ok w vc (sv L.caps) ∧ SliceAt ok w vn (bv L.nonce) ∧ SliceAt ok w vs (bv L.sig) ∧ TokAt ok w r vp

def Kept (ok : Nat → Prop) (w w' : World) : Prop := ∀ b, ok b → w'.heap[b]? = w.heap[b]?
theorem Kept.cell {ok : Nat → Prop} {w w' : World} (h : Kept ok w w') {M o : Nat} (hM : ok M) : w'.cell? ⟨M, o, none⟩ = w.cell? ⟨M, o, none⟩ := World.cell?_of_block (h M hM)
theorem SliceAt.kept {ok : Nat → Prop} {w w' : World} {v : Value} {xs : List Value} (h : SliceAt ok w v xs) (hk : Kept ok w w') : SliceAt ok w' v xs := by
  rcases h with h | ⟨M, o, c, rfl, hM, hc⟩
  · exact .inl h
  · exact .inr ⟨M, o, c, rfl, hM, fun k hk' => (hk.cell hM).trans (hc k hk')⟩
theorem SliceAt.mono {ok ok' : Nat → Prop} {w : World} {v : Value} {xs : List Value} (h : SliceAt ok w v xs) (hk : ∀ b, ok b → ok' b) : SliceAt ok' w v xs := by
  rcases h with h | ⟨M, o, c, rfl, hM, hc⟩
  · exact .inl h
  · exact .inr ⟨M, o, c, rfl, hk _ hM, hc⟩
theorem TokAt.kept {ok : Nat → Prop} {w w' : World} (hk : Kept ok w w') : ∀ {t : List Lvl} {v : Value}, TokAt ok w t v → TokAt ok w' t v
  | [], _, h => h
  | _ :: _, _, ⟨M, o, vc, vn, vp, vs, hv, hM, c0, c1, c2, c3, c4, c5, c6, c7, c8, c9, h1, h2, h3, h4⟩ =>
    ⟨M, o, vc, vn, vp, vs, hv, hM, (hk.cell hM).trans c0, (hk.cell hM).trans c1, (hk.cell hM).trans c2, (hk.cell hM).trans c3, (hk.cell hM).trans c4, (hk.cell hM).trans c5, (hk.cell hM).trans c6, (hk.cell hM).trans c7, (hk.cell hM).trans c8, (hk.cell hM).trans c9, h1.kept hk, h2.kept hk, h3.kept hk, TokAt.kept hk h4⟩
theorem TokAt.mono {ok ok' : Nat → Prop} {w : World} (hk : ∀ b, ok b → ok' b) : ∀ {t : List Lvl} {v : Value}, TokAt ok w t v → TokAt ok' w t v
  | [], _, h => h
  | _ :: _, _, ⟨M, o, vc, vn, vp, vs, hv, hM, c0, c1, c2, c3, c4, c5, c6, c7, c8, c9, h1, h2, h3, h4⟩ =>
    ⟨M, o, vc, vn, vp, vs, hv, hk _ hM, c0, c1, c2, c3, c4, c5, c6, c7, c8, c9, h1.mono hk, h2.mono hk, h3.mono hk, TokAt.mono hk h4⟩
theorem RowAt.kept {ok : Nat → Prop} {w w' : World} {t : List Lvl} {cs : List Value} (h : RowAt ok w t cs) (hk : Kept ok w w') : RowAt ok w' t cs := by
  obtain ⟨L, r, vc, vn, vp, vs, h1, h2, h3, h4, h5, h6⟩ := h
  exact ⟨L, r, vc, vn, vp, vs, h1, h2, h3.kept hk, h4.kept hk, h5.kept hk, h6.kept hk⟩
theorem RowAt.mono {ok ok' : Nat → Prop} {w : World} {t : List Lvl} {cs : List Value} (h : RowAt ok w t cs) (hk : ∀ b, ok b → ok' b) : RowAt ok' w t cs := by
  obtain ⟨L, r, vc, vn, vp, vs, h1, h2, h3, h4, h5, h6⟩ := h
  exact ⟨L, r, vc, vn, vp, vs, h1, h2, h3.mono hk, h4.mono hk, h5.mono hk, h6.mono hk⟩
theorem kept_of_below {B : Nat} {w w' : World} (h : Below B w w') {ok : Nat → Prop} (hB : ∀ b, ok b → b < B) : Kept ok w w' := fun b hb => h.block b (hB b hb)

/-- A slice's shape; its cells where there is one. -/
theorem SliceAt.shape {ok : Nat → Prop} {w : World} {v : Value} {xs : List Value} (h : SliceAt ok w v xs) :
    ∃ p c, v = .slice p xs.length c ∧ (0 < xs.length → ∃ M o, p = some ⟨M, o, none⟩ ∧ ok M ∧ ∀ k (h : k < xs.length), w.cell? ⟨M, o + k, none⟩ = some (xs[k]'h)) := by
  rcases h with ⟨rfl, p, c, rfl, _⟩ | ⟨M, o, c, rfl, hM, hc⟩
  · exact ⟨p, c, rfl, fun h => absurd h (by simp)⟩
  · exact ⟨_, c, rfl, fun _ => ⟨M, o, rfl, hM, hc⟩⟩
theorem SliceAt.bytes {ok : Nat → Prop} {w : World} {v : Value} {l : List UInt8} (h : SliceAt ok w v (bv l)) :
    ∃ p c, v = .slice p l.length c ∧ (0 < l.length → ∃ M o, p = some ⟨M, o, none⟩ ∧ ok M ∧ ∀ k (h : k < l.length), w.cell? ⟨M, o + k, none⟩ = some (.int .u8 ((l[k]'h).toNat : Int))) := by
  obtain ⟨p, c, hv, h⟩ := h.shape
  rw [bv_length] at hv
  refine ⟨p, c, hv, fun h0 => ?_⟩
  obtain ⟨M, o, hp, hM, hc⟩ := h (by simpa using h0)
  exact ⟨M, o, hp, hM, fun k hk => (hc k (by simpa using hk)).trans (by rw [bv_get])⟩
theorem SliceAt.strs {ok : Nat → Prop} {w : World} {v : Value} {l : List ByteArray} (h : SliceAt ok w v (sv l)) :
    ∃ p c, v = .slice p l.length c ∧ (0 < l.length → ∃ M o, p = some ⟨M, o, none⟩ ∧ ok M ∧ ∀ k (h : k < l.length), w.cell? ⟨M, o + k, none⟩ = some (.string (l[k]'h))) := by
  obtain ⟨p, c, hv, h⟩ := h.shape
  rw [sv_length] at hv
  refine ⟨p, c, hv, fun h0 => ?_⟩
  obtain ⟨M, o, hp, hM, hc⟩ := h (by simpa using h0)
  exact ⟨M, o, hp, hM, fun k hk => (hc k (by simpa using hk)).trans (by rw [sv_get])⟩

theorem SliceAt.none_zero {ok : Nat → Prop} {w : World} {n c : Nat} {xs : List Value} (h : SliceAt ok w (.slice none n c) xs) : xs = [] ∧ n = 0 ∧ c = 0 := by
  rcases h with ⟨rfl, p, c, h, h0⟩ | ⟨M, o, c, h, _⟩
  · cases h; exact ⟨rfl, rfl, h0 rfl⟩
  · cases h

/-- How great a level's parts may be. -/
def Lvl.fits (N : Nat) (L : Lvl) : Prop :=
  L.act.size ≤ N ∧ L.iss.size ≤ N ∧ L.sub.size ≤ N ∧ L.aud.size ≤ N ∧ L.caps.length ≤ N ∧ (∀ c ∈ L.caps, c.size ≤ N) ∧ L.nonce.length ≤ N ∧ L.sig.length ≤ N ∧
  (-9223372036854775808 ≤ L.exp ∧ L.exp ≤ 9223372036854775807) ∧ (-9223372036854775808 ≤ L.depth ∧ L.depth ≤ 9223372036854775807)

theorem ret_b {a b : Bool} (h : a = b) : Ending.returned (.bool a) = .returned (.bool b) := by rw [h]
theorem ret_i {a b : Int} (h : a = b) : Ending.returned (.int .i64 a) = .returned (.int .i64 b) := by rw [h]
theorem drewN_two (w : World) (a b : Nat) : ∃ m, (w.drewN a).drewN b = w.drewN m := ⟨a + b, by simp [World.drewN, Nat.add_assoc]⟩
theorem drewN_three (w : World) (a b c : Nat) : ∃ m, ((w.drewN a).drewN b).drewN c = w.drewN m := ⟨a + b + c, by simp [World.drewN, Nat.add_assoc]⟩
theorem Kept.refl (ok : Nat → Prop) (w : World) : Kept ok w w := fun _ _ => rfl
end Go.Proofs.Qxb6618615aDoor
