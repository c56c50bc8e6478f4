/-
  The sealed bytes: how long, and that they tell one token from every other.
-/
import Derived.Test.Qxb6618615aDoorSealed
import Derived.Test.Qxb6618615aDoorSizes
import Derived.Test.Qxb6618615aDoorTok
namespace Go.Proofs.Qxb6618615aDoor
set_option linter.unusedVariables false
set_option linter.unusedSimpArgs false

theorem fld_length (f : List UInt8) : (fld f).length = 8 + f.length := by simp [fld]
theorem flds_capB_length (caps : List ByteArray) : (flds (capB caps)).length ≤ capsSize caps := by
  induction caps with
  | nil => simp [capB, flds, capsSize]
  | cons c r ih =>
    have : c.data.toList.length = c.size := rfl
    simp only [capB, flds, capsSize, List.length_append, fld_length]
    omega
theorem sealed_length (t : List Lvl) : (sealed t).length ≤ tokSize t := by
  induction t with
  | nil => simp [sealed, tokSize]
  | cons L r ih =>
    have h1 := flds_capB_length L.caps
    have e1 : L.act.data.toList.length = L.act.size := rfl
    have e2 : L.iss.data.toList.length = L.iss.size := rfl
    have e3 : L.sub.data.toList.length = L.sub.size := rfl
    have e4 : L.aud.data.toList.length = L.aud.size := rfl
    have e5 : domain.length = 15 := rfl
    simp only [sealed, signed, tokSize, lvlSize, flds, List.length_append, fld_length, be8_length, List.length_nil]
    omega

theorem fld_inj {a b r s : List UInt8} (ha : a.length < 18446744073709551616) (hb : b.length < 18446744073709551616) (h : fld a ++ r = fld b ++ s) : a = b ∧ r = s := by
  unfold fld at h
  rw [List.append_assoc, List.append_assoc] at h
  obtain ⟨h1, h2⟩ := List.append_inj h rfl
  exact List.append_inj h2 (be8_inj ha hb h1)
theorem capB_inj : ∀ {a b : List ByteArray}, (flds (capB a)).length < 18446744073709551616 → (flds (capB b)).length < 18446744073709551616 → flds (capB a) = flds (capB b) → a = b
  | [], [], _, _, _ => rfl
  | [], d :: s, _, _, h => by
    have := congrArg List.length h
    simp [capB, flds, fld_length] at this
    omega
  | c :: r, [], _, _, h => by
    have := congrArg List.length h
    simp [capB, flds, fld_length] at this
  | c :: r, d :: s, ha, hb, h => by
    simp only [capB, flds] at h ha hb
    rw [List.length_append, fld_length] at ha hb
    obtain ⟨h1, h2⟩ := fld_inj (by omega) (by omega) h
    rw [Go.WideShapes.bytes_inj h1, capB_inj (by omega) (by omega) h2]
def numFits (t : List Lvl) : Prop := ∀ L ∈ t, (-9223372036854775808 ≤ L.exp ∧ L.exp ≤ 9223372036854775807) ∧ (-9223372036854775808 ≤ L.depth ∧ L.depth ≤ 9223372036854775807)
theorem sealed_inj : ∀ {x y : List Lvl}, numFits x → numFits y → (sealed x).length ≤ 1000000000 → (sealed y).length ≤ 1000000000 → sealed x = sealed y → x = y
  | [], [], _, _, _, _, _ => rfl
  | [], K :: s, _, _, _, _, h => by
    have := congrArg List.length h
    simp [sealed, signed, flds, fld_length] at this
    omega
  | L :: r, [], _, _, _, _, h => by
    have := congrArg List.length h
    simp [sealed, signed, flds, fld_length] at this
  | L :: r, K :: s, nx, ny, hx, hy, h => by
    simp only [sealed, signed, flds, List.append_assoc, List.nil_append] at h hx hy
    simp only [List.length_append, fld_length] at hx hy
    obtain ⟨_, h⟩ := fld_inj (by decide) (by decide) h
    obtain ⟨h1, h⟩ := fld_inj (by omega) (by omega) h
    obtain ⟨h2, h⟩ := fld_inj (by omega) (by omega) h
    obtain ⟨h3, h⟩ := fld_inj (by omega) (by omega) h
    obtain ⟨h4, h⟩ := fld_inj (by omega) (by omega) h
    obtain ⟨h5, h⟩ := fld_inj (by omega) (by omega) h
    obtain ⟨h6, h⟩ := fld_inj (by omega) (by omega) h
    obtain ⟨h7, h⟩ := fld_inj (by omega) (by omega) h
    obtain ⟨h8, h⟩ := fld_inj (by omega) (by omega) h
    obtain ⟨h9, h10⟩ := fld_inj (by omega) (by omega) h
    have n1 := nx L (by simp)
    have n2 := ny K (by simp)
    have g : r = s := sealed_inj (fun A hA => nx A (by simp [hA])) (fun A hA => ny A (by simp [hA])) (by omega) (by omega) h9
    have g5 := capB_inj (by omega) (by omega) h5
    have g7 := u64_inj n1.1 n2.1 (be8_inj (u64_lt _) (u64_lt _) h7)
    have g8 := u64_inj n1.2 n2.2 (be8_inj (u64_lt _) (u64_lt _) h8)
    rw [g, lvl_ext (Go.WideShapes.bytes_inj h1) (Go.WideShapes.bytes_inj h2) (Go.WideShapes.bytes_inj h3) (Go.WideShapes.bytes_inj h4) g5 h6 g7 g8 h10]
end Go.Proofs.Qxb6618615aDoor
