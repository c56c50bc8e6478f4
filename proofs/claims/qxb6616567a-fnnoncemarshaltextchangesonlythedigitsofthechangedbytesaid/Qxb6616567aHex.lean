/-
  hexDigitValue, hexPairValue, String, MarshalText: what each call does.
-/
import Derived.Test.Qxb6616567aPlain
import Derived.Test.Qxb6616567aShelf
import Derived.Test.Qxb6616567aRows
import Derived.WalkKit
import Derived.WalkSpells
import Derived.WalkLawsBesides
import Derived.RowKitTokens
import Derived.Deep.WholeRow
import Derived.Deep.LoopGhost
import Derived.Lib.ConvBytes
import Derived.Lib.AtoiErrMem
import Derived.BigQuiet
import Derived.Deep.QuietTactic
import Derived.Deep.RegionWith
namespace Go.Proofs.Qxb6616567a
open Go.RowKit Pl Go.Lib
def intOf : Value → Int | .int _ q => q | _ => 0

theorem ret_ub {a b : Int} {c : Bool} (h : a = b) : Ending.returned (.tuple #[.int .u8 a, .bool c]) = .returned (.tuple #[.int .u8 b, .bool c]) := by rw [h]

set_option maxHeartbeats 400000 in
theorem digit13 (d : Nat) (h : d < 16) (w : World) :
    Calls Try.prog 13 #[.int .u8 ((Hx.digit d).toNat : Int)] w fun e w' => e = .returned (.tuple #[.int .u8 (d : Int), .bool true]) ∧ w' = w := by
  by_cases h10 : d < 10
  · rw [digit_small d h10]
    have h1 : ((48 + d : Nat) : Int) = 48 + (d : Int) := by omega
    rw [h1]
    go_enter Try.func13, Try.ntmps13
    go_wp2
    go_ret2
    exact ⟨ret_ub (by omega), rfl⟩
  · rw [digit_great d (by omega) h]
    have h1 : ((87 + d : Nat) : Int) = 87 + (d : Int) := by omega
    rw [h1]
    go_enter Try.func13, Try.ntmps13
    go_wp2
    go_ret2
    exact ⟨ret_ub (by omega), rfl⟩

theorem or_fin : ∀ hi lo : Fin 16, bits BinOp.or IntKind.u8 ((hi.val : Int) * 16) (lo.val : Int) = ((hi.val * 16 + lo.val : Nat) : Int) := by decide
theorem or_pair (hi lo : Nat) (hh : hi < 16) (hl : lo < 16) : bits BinOp.or IntKind.u8 ((hi : Int) * 16) (lo : Int) = ((hi * 16 + lo : Nat) : Int) := or_fin ⟨hi, hh⟩ ⟨lo, hl⟩

set_option maxHeartbeats 400000 in
theorem pair11 (M len cap k hi lo : Nat) (w : World) (hk : k + 1 < len) (hh : hi < 16) (hl : lo < 16) (hlen : len ≤ 1000)
    (h0 : w.cell? ⟨M, k, none⟩ = some (.int .u8 ((Hx.digit hi).toNat : Int))) (h1 : w.cell? ⟨M, k + 1, none⟩ = some (.int .u8 ((Hx.digit lo).toNat : Int))) :
    Calls Try.prog 11 #[.slice (some ⟨M, 0, none⟩) len cap, .int .i64 (k : Int)] w fun e w' => e = .returned (.tuple #[.int .u8 ((hi * 16 + lo : Nat) : Int), .bool true]) ∧ w' = w := by
  go_enter Try.func11, Try.ntmps11
  go_wp2_with fail
  refine (digit13 hi hh _).mono ?_
  rintro e w' ⟨rfl, rfl⟩
  go_wp2_with fail
  refine (digit13 lo hl _).mono ?_
  rintro e w' ⟨rfl, rfl⟩
  go_wp2
  go_ret2
  exact ⟨ret_ub (or_pair hi lo hh hl), rfl⟩

/-- The cells of sixteen bytes. -/
def Cells16 (cs : Array Value) (l : List UInt8) : Prop := l.length = 16 ∧ cs.size = 16 ∧ ∀ j (h : j < l.length), cs[j]? = some (.int .u8 ((l[j]'h).toNat : Int))
theorem size27 : (Try.prog.info? 27).map (·.size) = some 16 := by kernel_rfl
theorem size25 : (Try.prog.info? 25).map (·.size) = some 16 := by kernel_rfl

set_option maxHeartbeats 400000 in
theorem string12 (cs : Array Value) (l : List UInt8) (hc : Cells16 cs l) (w : World) :
    Calls Try.prog 12 #[.agg cs] w fun e w' => e = .returned (.string ⟨(Hx.encode l).toArray⟩) ∧ Below w.heap.size w w' := by
  obtain ⟨hl, hs, hj⟩ := hc
  have hE : Calls Try.prog 14 #[.slice (some ⟨w.heap.size, 0, none⟩) 16 16] (w.alloc (.cells cs 27)) fun e w' => e = .returned (.string ⟨(Hx.encode l).toArray⟩) ∧ Below (w.alloc (.cells cs 27)).heap.size (w.alloc (.cells cs 27)) w' := by
    have h := Any.hex_EncodeToString_bytes Try.laysPah39 w.heap.size 0 16 l (w.alloc (.cells cs 27)) (fun i hi => by
      rw [cell_of_row _ _ _ cs 27 (0, 0) (heap_alloc_last w _), Nat.zero_add]; exact hj i hi) (by simp) (by omega)
    rw [hl] at h
    exact h
  clear hj hl
  go_enter Try.func12, Try.ntmps12
  go_wp2_with (go_at_call 14; refine hE.mono ?_; rintro e w1 ⟨rfl, hb1⟩)
  go_ret
  exact ⟨rfl, ((Below.refl _ w).alloc (Nat.le_refl _) _).trans (hb1.mono (by simp))⟩

/-- What the text's cells hold. -/
def Text (w : World) (M : Nat) (l : List UInt8) : Prop := ∀ j (h : j < l.length), w.cell? ⟨M, j, none⟩ = some (.int .u8 ((l[j]'h).toNat : Int))

set_option maxHeartbeats 400000 in
theorem marshal8 (cs : Array Value) (l : List UInt8) (hc : Cells16 cs l) (w : World) :
    Calls Try.prog 8 #[.agg cs] w fun e w' => ∃ M cap, e = .returned (.tuple #[.slice (some ⟨M, 0, none⟩) 32 cap, .nilIface]) ∧ w.heap.size ≤ M ∧ M < w'.heap.size ∧ Below w.heap.size w w' ∧ Text w' M (Hx.encode l) := by
  have hS := fun W => string12 cs l hc W
  obtain ⟨hl, hs, hj⟩ := hc
  have hlen := encode_16 l hl
  have hcv := fun (W : World) (s : ByteArray) => Go.Lib.run_convert_string_bytes (P := Try.prog) W 9 49 5 s Try.underlying9 Try.underlying49 Try.underlying5
  generalize hx : (⟨(Hx.encode l).toArray⟩ : ByteArray) = x at *
  have hxl : x.data.toList = Hx.encode l := by rw [← hx]
  have hxs : x.size = 32 := by rw [← hlen, ← hxl]; exact Array.length_toList.symm
  have HXL : Hid (x.data.toList = Hx.encode l) := hxl
  clear hj hl hx hxl hlen
  go_enter Try.func8, Try.ntmps8
  go_wp2_with (first
    | (refine wpList_load_row rfl 27 _ rfl _ rfl 27 cs (0, 0) _ ?_ Try.underlying27 rfl (by rw [hs]; exact size27) ?_)
    | (go_at_call 12; refine (hS _).mono ?_; rintro e w1 ⟨rfl, hb1⟩))
  · exact heap_alloc_last w _
  go_ret2
  have hb0 : Below w.heap.size w (w.alloc (.cells cs 27)) := (Below.refl _ w).alloc (Nat.le_refl _) _
  have hz : w.heap.size ≤ w1.heap.size := Nat.le_trans hb0.size hb1.size
  refine ⟨w1.heap.size, _, rfl, hz, by rw [bytesWorld_size]; omega, (hb0.trans (hb1.mono hb0.size)).trans ((bytesWorld_below w1 5 x).mono hz), ?_⟩
  intro j hj2
  have hjl : j < x.size := by
    have h1 : x.data.toList.length = x.size := Array.length_toList
    rw [HXL.out] at h1; omega
  rw [bytesWorld_cell w1 5 x j hjl, HXL.out, List.getD_eq_getElem?_getD, List.getElem?_eq_getElem hj2]
  rfl

set_option maxHeartbeats 400000 in
/-- spellsNonceInLowerHex: the text of l spells l. -/
theorem spells9 (cs : Array Value) (l : List UInt8) (hc : Cells16 cs l) (M cap : Nat) (w : World) (ht : Text w M (Hx.encode l)) :
    Calls Try.prog 9 #[.slice (some ⟨M, 0, none⟩) 32 cap, .agg cs] w fun e w' => e = .returned (.bool true) ∧ w' = w.alloc (.cells cs 25) := by
  obtain ⟨hl, hs, hj⟩ := hc
  have hlen := encode_16 l hl
  have hP : ∀ k : Nat, ∀ hk : k < l.length, Calls Try.prog 11 #[.slice (some ⟨M, 0, none⟩) 32 cap, .int .i64 (2 * (k : Int))] (w.alloc (.cells cs 25)) fun e w' => e = .returned (.tuple #[.int .u8 ((l[k]'hk).toNat : Int), .bool true]) ∧ w' = w.alloc (.cells cs 25) := by
    intro k hk
    have hb0 : Below w.heap.size w (w.alloc (.cells cs 25)) := (Below.refl _ w).alloc (Nat.le_refl _) _
    have hlt := (l[k]'hk).toNat_lt
    have h0 := ht (2 * k) (by omega)
    have h1 := ht (2 * k + 1) (by omega)
    rw [encode_hi l k hk] at h0
    rw [encode_lo l k hk] at h1
    have h := pair11 M 32 cap (2 * k) ((l[k]'hk).toNat / 16) ((l[k]'hk).toNat % 16) (w.alloc (.cells cs 25)) (by omega) (by omega) (by omega) (by omega) (cell_later hb0 h0) (cell_later hb0 h1)
    have e1 : ((2 * k : Nat) : Int) = 2 * (k : Int) := by omega
    have e2 : (l[k]'hk).toNat / 16 * 16 + (l[k]'hk).toNat % 16 = (l[k]'hk).toNat := by omega
    rw [e1, e2] at h
    exact h
  have HL : Hid (l.length = 16) := hl
  have HJ : Hid (∀ j (h : j < l.length), cs[j]? = some (.int .u8 ((l[j]'h).toNat : Int))) := hj
  clear hj hl ht hlen
  go_enter Try.func9, Try.ntmps9
  go_wp2
  go_loop [5] (fun i => ∃ k : Nat, k ≤ 16 ∧ i = .int .i64 k) (fun i => 16 - (intOf i).toNat)
  case atStart => exact ⟨0, Nat.zero_le _, rfl⟩
  case round =>
    obtain ⟨k, hk, rfl⟩ := hrel
    by_cases hlt : k < 16
    · have hkl : k < l.length := by rw [HL.out]; exact hlt
      have hck := HJ.out k hkl
      have hcg : cs[k]'(by rw [hs]; exact hlt) = .int .u8 ((l[k]'hkl).toNat : Int) := by
        rw [Array.getElem?_eq_getElem (by rw [hs]; exact hlt)] at hck; exact Option.some.inj hck
      have hne : (((l[k]'hkl).toNat : Int) != ((l[k]'hkl).toNat : Int)) = false := by simp
      go_wp2_with (go_at_call 11; refine (hP k hkl).mono ?_; rintro e w' ⟨rfl, rfl⟩)
      go_round
      case rel => exact ⟨k + 1, by omega, by go_num⟩
      case measure => simp [intOf]; omega
    · go_wp2
      go_ret
      exact ⟨rfl, rfl⟩
end Go.Proofs.Qxb6616567a
