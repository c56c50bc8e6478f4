/-
  FnParseValueAgreesWithNumeralAndNegation: at every string the law answers true; the card, told and tied.
-/
import Derived.Test.Qxb6618510aFmtAgree
import Derived.Test.Qxb6618510aFmtLaid
import Derived.Test.Qxb6618510aFmtTie
import Derived.Test.Qxb6618510aFmtCards
namespace Go.Proofs.Qxb6618510aFmt
open Go.ChangeShapes Go.WideShapes Go.ChangeAt Go.RowKit Go.Kit
open Go.ChangeMaps (open_string shut_string)
open Pl Go.Extern.Stop Go.Stop Go.Extern

theorem lt_cell {w : World} {a : Addr} {v : Value} (h : w.cell? a = some v) : a.block < w.heap.size := by
  rcases Nat.lt_or_ge a.block w.heap.size with hl | hl
  · exact hl
  · simp [World.cell?, Array.getElem?_eq_none hl] at h

/-- ParseValue, both ways in one. -/
theorem value_res (F : Interp) (s : ByteArray) (hlim : s.size ≤ 281474976710656) (r : Option Int) (h : pv s.data.toList = r) (w : World) (hF : F.answers w.tape)
    (hv0 : ∃ t p, w.cell? ⟨0, 0, none⟩ = some (.iface t p)) (hv1 : ∃ t p, w.cell? ⟨1, 0, none⟩ = some (.iface t p)) :
    Calls Tryf.prog 6 #[.string s] w fun e w' => Res r e ∧ Below w.heap.size w w' := by
  cases r with
  | some v => exact value_some s hlim v h w
  | none => exact value_none F s hlim h w hF hv0 hv1

/-- The same in a world that lies above, behind one new block. -/
theorem value_res_above (F : Interp) (s : ByteArray) (hlim : s.size ≤ 281474976710656) (r : Option Int) (h : pv s.data.toList = r) (w : World) (hF : F.answers w.tape)
    (hv0 : ∃ t p, w.cell? ⟨0, 0, none⟩ = some (.iface t p)) (hv1 : ∃ t p, w.cell? ⟨1, 0, none⟩ = some (.iface t p)) (w2 : World) (hb : Below w.heap.size w w2) :
    Calls Tryf.prog 6 #[.string s] w2 fun e w' => Res r e ∧ Below w.heap.size w2 w' := by
  obtain ⟨t0, p0, h0⟩ := hv0
  obtain ⟨t1, p1, h1⟩ := hv1
  refine (value_res F s hlim r h w2 (hb.tape ▸ hF) ⟨t0, p0, ?_⟩ ⟨t1, p1, ?_⟩).mono ?_
  · rw [hb.cell (lt_cell h0)]; exact h0
  · rw [hb.cell (lt_cell h1)]; exact h1
  · rintro e w' ⟨hr, hb2⟩
    exact ⟨hr, hb2.mono hb.size⟩

theorem list_minus (s : ByteArray) : (⟨#[45]⟩ ++ s : ByteArray).data.toList = 45 :: s.data.toList := by simp [ByteArray.data_append]
theorem size_minus (s : ByteArray) : (⟨#[45]⟩ ++ s : ByteArray).size = s.size + 1 := by
  rw [← len_eq, list_minus, List.length_cons, len_eq]

theorem first_no (l : List UInt8) (h : swd l = false) : l = [] ∨ allD l = false := by
  cases l with
  | nil => exact Or.inl rfl
  | cons c r => right; rw [allD_cons]; simp only [swd] at h; rw [h]; rfl

theorem agr_any (F : Interp) (s : ByteArray) (w : World) (hF : F.answers w.tape)
    (hv0 : ∃ t p, w.cell? ⟨0, 0, none⟩ = some (.iface t p)) (hv1 : ∃ t p, w.cell? ⟨1, 0, none⟩ = some (.iface t p)) :
    Calls Tryf.prog 3 #[.string s] w fun e w' => e = .returned (.bool true) ∧ Below w.heap.size w w' := by
  by_cases h : s.size ≤ 1048576
  · have hc1 := fun r (hr : pv s.data.toList = r) => value_res F s (by omega) r hr w hF hv0 hv1
    have hc2 := fun r (hr : pv (45 :: s.data.toList) = r) w1 (hb : Below w.heap.size w w1) => value_res_above F (⟨#[45]⟩ ++ s) (by rw [size_minus]; omega) r (by rw [list_minus]; exact hr) w hF hv0 hv1 w1 hb
    have hc7 := fun w => exp_any s w (by omega)
    have hc8 := fun w => num_any s w (by omega)
    have hl := len_eq s
    have hm := pv_minus_cons s.data.toList
    by_cases he : s.size = 0
    · have hnil : s.data.toList = [] := List.length_eq_zero_iff.1 (by omega)
      have hp : pv s.data.toList = none := by rw [hnil]; exact pv_empty
      rw [if_pos (Or.inl hnil)] at hm
      rw [hp] at hc7
      exact agr_A s w h (by rw [beq_iff_eq]; omega) (hc1 _ hp) (hc2 _ hm) hc7
    · have he' : ((s.size : Int) == 0) = false := by rw [beq_eq_false_iff_ne]; omega
      have h0 : 0 < s.size := by omega
      have hne : s.data.toList ≠ [] := by intro e; rw [e] at hl; simp at hl; omega
      have hsw : swd s.data.toList = isD s[0] := by
        cases hx : s.data.toList with
        | nil => exact absurd hx hne
        | cons c r =>
          have h1 : s[0] = s.data.toList[0]'(by rw [hl]; exact h0) := rfl
          have h2 : s[0] = c := by rw [h1]; simp [hx]
          rw [h2]; rfl
      by_cases hd : isD s[0] = true
      · obtain ⟨d1, d2⟩ := isD_true.1 hd
        have hn : neg s.data.toList = false := by
          cases hx : neg s.data.toList with
          | false => rfl
          | true =>
            obtain ⟨_, hy⟩ := (head_neg s).1 hx
            rw [beq_iff_eq] at hy
            omega
        have hp := pv_plain s.data.toList hn
        unfold numeral at hc8
        by_cases ha : s.data.toList = [] ∨ allD s.data.toList = false
        · rw [if_pos ha] at hp hm
          rw [hp] at hc7
          simp only [if_pos ha] at hc8
          exact agr_D2 s w h he' h0 (by omega) (by omega) (hc1 _ hp) (hc2 _ hm) hc7 hc8
        · rw [if_neg ha] at hp hm
          simp only [if_neg ha] at hc8
          by_cases hb : dv 0 s.data.toList < 9223372036854775808
          · rw [if_pos hb] at hp
            rw [if_pos (by omega)] at hm
            rw [hp] at hc7
            exact agr_C s (dv 0 s.data.toList) w h he' h0 (by omega) (by omega) (by omega) (by omega) (hc1 _ hp) (hc2 _ hm) hc7
          · rw [if_neg hb] at hp
            rw [hp] at hc7
            by_cases hg : 9223372036854775808 < dv 0 s.data.toList
            · rw [if_neg (by omega)] at hm
              simp only [if_pos hg] at hc8
              exact agr_D3 s w h he' h0 (by omega) (by omega) (hc1 _ hp) (hc2 _ hm) hc7 hc8
            · rw [if_pos (by omega)] at hm
              simp only [if_neg hg] at hc8
              have heq : dv 0 s.data.toList = 9223372036854775808 := by omega
              rw [heq] at hm hc8
              exact agr_D1 s w h he' h0 (by omega) (by omega) (hc1 _ hp) (hc2 _ hm) hc7 hc8
      · have hd' : isD s[0] = false := by simpa using hd
        have hdd := isD_false.1 hd'
        rw [if_pos (first_no _ (hsw.trans hd'))] at hm
        cases hr : pv s.data.toList with
        | none =>
          rw [hr] at hc7
          exact agr_B_n s w h he' h0 (by omega) (hc1 _ hr) (hc2 _ hm) hc7
        | some v =>
          rw [hr] at hc7
          exact agr_B_s s v w h he' h0 (by omega) (hc1 _ hr) (hc2 _ hm) hc7
  · exact agr_long s w (by omega)

theorem laid_same : Rows.fnParseValueAgreesWithNumeralAndNegationRow.laid = Rows.fnParseValueAppendDigitRow.laid := rfl

set_option maxRecDepth 100000 in
set_option maxHeartbeats 1600000 in
theorem agree_lifted (os : Os) (started : os.Started) (H : Type) (enc : TypeId × Value → H) :
    ReturnsInTold none {} Tryf.checked os 3 .any Input.okWide ((OpenSpec.ofChange Rows.fnParseValueAgreesWithNumeralAndNegationSpec).preRow enc Tryf.prog Tryf.f3 [] false Rows.fnParseValueAgreesWithNumeralAndNegationRow.laid) (fun F => ((OpenSpec.ofChange Rows.fnParseValueAgreesWithNumeralAndNegationSpec).at F).post enc Tryf.prog Tryf.f3 false true false false) (aloneAtReturn Tryf.prog) nothingAlways := by
  refine returnsInTold_of_row (C := Tryf.checked) (s := OpenSpec.ofChange Rows.fnParseValueAgreesWithNumeralAndNegationSpec) (by kernel_rfl) Tryf.own started (by kernel_rfl) Tryf.func3
    (OpenSpec.witness_stopped_atRef (enc := enc) (C := Tryf.checked) false (laidOver (World.settled Tryf.prog os).heap.size (World.holding Tryf.prog os laidInput)) #[.string ⟨#[]⟩] rfl (by kernel_rfl) (by kernel_rfl) (by kernel_rfl)
      (OpenSpec.preRow_of_B rfl 8 (by kernel_rfl) (by kernel_rfl) (laid_start os _))) ?_
  intro F W base args ds gs before _ hF hval0 hW _ _ _ hL _
  have hval : ∀ (j : Nat) t v, Tryf.f3.params[j]? = some t → args[j]? = some v → Value.okWide Tryf.prog W .any base t v := hval0
  have hW' := hW
  obtain ⟨p, q, hA0, hV0, rfl, _, _⟩ := hW
  have hA : DataW.TrodAll enc Tryf.prog W 0 (fun _ => true) true Tryf.f3.params.toList args.toList ds p := hA0
  rw [Tryf.params3] at hA hval
  obtain ⟨v0, d0, rfl, rfl, h0⟩ := trodAll_one hA
  obtain ⟨rfl, rfl⟩ := trodVars_none hV0
  obtain ⟨s, rfl, rfl, rfl, ws⟩ := open_string Tryf.underlying9 (hval 0 9 v0 rfl rfl) h0
  clear hA0 hV0 hval0
  obtain ⟨hv0, hv1⟩ := laid_cells hL
  refine (agr_any F.told s W hF hv0 hv1).mono ?_
  rintro e W' ⟨rfl, bel⟩
  refine ⟨_, rfl, _, _, _, [], [], [], hW', ?_, ?_, ?_, bel.frame _, fun h => by cases h⟩
  · exact trodAll_mk1 (shut_bool Tryf.underlying4 true)
  · exact trodAll_mk1 (shut_string Tryf.underlying9 ws)
  · rfl

theorem agree_told : Rows.FnParseValueAgreesWithNumeralAndNegationToldSaid :=
  Claim7.holds_of_told_tied_any_at .later 3 Tryf.f3 "fmt.errorf" [] [] _ _ _ _ _ (by kernel_rfl) rfl rfl rfl Tryf.laidOut (by kernel_rfl) rfl ⟨rfl, rfl, rfl, rfl, rfl, rfl, rfl⟩ rfl rfl (by kernel_rfl) (by kernel_rfl) Tryf.func3 (by kernel_rfl)
    (of_decide_eq_true (by kernel_rfl)) (of_decide_eq_true (by kernel_rfl)) Tryf.stops.symm rfl Tryf.stopKnobs.symm (by kernel_rfl)
    (by kernel_rfl) (by kernel_rfl) (by kernel_rfl) (by kernel_rfl) (by kernel_rfl) (by kernel_rfl) (by kernel_rfl) (by kernel_rfl) (by kernel_rfl) rfl (by kernel_rfl) rfl rfl
    rfl rfl
    rfl (by kernel_rfl) (by kernel_rfl) (by kernel_rfl) (by decide) (by kernel_rfl) fnParseValueAgreesWithNumeralAndNegation_row_tie
    (OpenClaim.moreEntering_of (by kernel_rfl) (by kernel_rfl) (by kernel_rfl) (by kernel_rfl) (by kernel_rfl) (by kernel_rfl) (by kernel_rfl) (by kernel_rfl) (by kernel_rfl) (by kernel_rfl))
    ⟨_, WideRow.started_initial, Tryf.quiet _⟩
    (fun os started _ H enc _ => agree_lifted os started H enc)
end Go.Proofs.Qxb6618510aFmt
