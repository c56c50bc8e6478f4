/-
  FnParseValueAppendDigit: at every string and every byte the law answers true; the card, told and tied.
-/
import Derived.Test.Qxb6618510aFmtAppend
import Derived.Test.Qxb6618510aFmtLaid
import Derived.Test.Qxb6618510aFmtTie
import Derived.Test.Qxb6618510aFmtCards
namespace Go.Proofs.Qxb6618510aFmt
open Go.ChangeShapes Go.WideShapes Go.ChangeAt Go.RowKit Go.Kit
open Go.ChangeMaps (open_string shut_string)
open Pl Go.Extern.Stop Go.Stop Go.Extern

theorem lt_cell {w : World} {a : Addr} {v : Value} (h : w.cell? a = some v) : a.block < w.heap.size := by
  rcases Nat.lt_or_ge a.block w.heap.size with hl | hl
  · exact hl
  · simp [World.cell?, Array.getElem?_eq_none hl] at h

/-- ParseValue, both ways in one. -/
theorem value_res (F : Interp) (s : ByteArray) (hlim : s.size ≤ 281474976710656) (r : Option Int) (h : pv s.data.toList = r) (w : World) (hF : F.answers w.tape)
    (hv0 : ∃ t p, w.cell? ⟨0, 0, none⟩ = some (.iface t p)) (hv1 : ∃ t p, w.cell? ⟨1, 0, none⟩ = some (.iface t p)) :
    Calls Tryf.prog 6 #[.string s] w fun e w' => Res r e ∧ Below w.heap.size w w' := by
  cases r with
  | some v => exact value_some s hlim v h w
  | none => exact value_none F s hlim h w hF hv0 hv1

/-- The same in a world that lies above, behind one new block. -/
theorem value_res_above (F : Interp) (s : ByteArray) (hlim : s.size ≤ 281474976710656) (r : Option Int) (h : pv s.data.toList = r) (w : World) (hF : F.answers w.tape)
    (hv0 : ∃ t p, w.cell? ⟨0, 0, none⟩ = some (.iface t p)) (hv1 : ∃ t p, w.cell? ⟨1, 0, none⟩ = some (.iface t p)) (w2 : World) (hb : Below w.heap.size w w2) :
    Calls Tryf.prog 6 #[.string s] w2 fun e w' => Res r e ∧ Below w.heap.size w2 w' := by
  obtain ⟨t0, p0, h0⟩ := hv0
  obtain ⟨t1, p1, h1⟩ := hv1
  refine (value_res F s hlim r h w2 (hb.tape ▸ hF) ⟨t0, p0, ?_⟩ ⟨t1, p1, ?_⟩).mono ?_
  · rw [hb.cell (lt_cell h0)]; exact h0
  · rw [hb.cell (lt_cell h1)]; exact h1
  · rintro e w' ⟨hr, hb2⟩
    exact ⟨hr, hb2.mono hb.size⟩

theorem list_snoc (s : ByteArray) (c : UInt8) : (s ++ ⟨#[c]⟩ : ByteArray).data.toList = s.data.toList ++ [c] := by simp [ByteArray.data_append]
theorem size_snoc (s : ByteArray) (c : UInt8) : (s ++ ⟨#[c]⟩ : ByteArray).size = s.size + 1 := by
  rw [← len_eq, list_snoc, List.length_append, len_eq]; rfl

theorem app_any (F : Interp) (s : ByteArray) (c : UInt8) (w : World) (hF : F.answers w.tape)
    (hv0 : ∃ t p, w.cell? ⟨0, 0, none⟩ = some (.iface t p)) (hv1 : ∃ t p, w.cell? ⟨1, 0, none⟩ = some (.iface t p)) :
    Calls Tryf.prog 4 #[.string s, .int .u8 (c.toNat : Int)] w fun e w' => e = .returned (.bool true) ∧ Below w.heap.size w w' := by
  by_cases h : s.size ≤ 1048576
  · have hc1 := fun r (hr : pv s.data.toList = r) => value_res F s (by omega) r hr w hF hv0 hv1
    have hc2 := fun r (hr : pv (s.data.toList ++ [c]) = r) w1 (hb : Below w.heap.size w w1) => value_res_above F (s ++ ⟨#[c]⟩) (by rw [size_snoc]; omega) r (by rw [list_snoc]; exact hr) w hF hv0 hv1 (w1.alloc (.cells #[.int .u8 (c.toNat : Int)] 5)) (hb.alloc hb.size _)
    have hl := len_eq s
    have ht := ByteArray.toList_eq s
    by_cases hd : isD c = true
    · obtain ⟨d1, d2⟩ := isD_true.1 hd
      by_cases he : s.data.toList = []
      · refine app_dig_e s c w h (by rw [ht, he]; rfl) (by rw [he] at hl; simpa using hl.symm) (by omega) (by omega) (hc1 _ (by rw [he]; exact pv_empty)) (hc2 _ (by rw [he]; exact snoc_empty c hd))
      · have he' : s.toList.isEmpty = false := by rw [ht]; simpa using he
        have hz : 0 < s.size := by
          cases hx : s.data.toList with
          | nil => exact absurd hx he
          | cons a r => rw [hx] at hl; simp at hl; omega
        have hhd : s.data.toList.head? = some s[0] := by
          cases hx : s.data.toList with
          | nil => exact absurd hx he
          | cons a r =>
            have h1 : s[0] = s.data.toList[0]'(by rw [hl]; exact hz) := rfl
            rw [h1]; simp [hx]
        have hneg : neg s.data.toList = ((s[0].toNat : Int) == 45) := by
          unfold neg
          rw [hhd, Bool.eq_iff_iff]
          simp only [beq_iff_eq, Option.some.injEq]
          constructor
          · intro e; rw [e]; rfl
          · intro e
            have h45 : s[0].toNat = 45 := by omega
            exact UInt8.toNat_inj.1 (h45.trans rfl)
        by_cases hm : s.data.toList = [45]
        · have hng : neg s.data.toList = true := by rw [hm]; rfl
          refine app_dig_m s c w h he' (by rw [ht, hm]; rfl) hz (by rw [← hneg]; exact hng) (by omega) (by omega) (hc1 _ (by rw [hm]; exact pv_minus)) (hc2 _ (by rw [hm]; exact snoc_minus c hd))
        · have hm' : (s.toList == [45]) = false := by rw [ht]; simpa using hm
          cases hr : pv s.data.toList with
          | none => exact app_dig_n s c w h he' hm' (by omega) (by omega) (hc1 _ hr) (hc2 _ (snoc_none _ c hd hr he hm))
          | some v =>
            obtain ⟨_, _, _, hv⟩ := pv_some _ v hr
            cases hng : neg s.data.toList with
            | true =>
              have hs := snoc_some_neg _ c hd v hr hng
              have hr0 : v ≤ 0 := by
                rcases hv with ⟨_, rfl, _⟩ | ⟨hx, _⟩
                · omega
                · rw [hng] at hx; cases hx
              by_cases ho : v < -922337203685477580 ∨ (v = -922337203685477580 ∧ 8 < (c.toNat : Int) - 48)
              · rw [if_pos ho] at hs
                exact app_neg_over s c v w h he' hm' hz (by rw [← hneg]; exact hng) (by omega) (by omega) ho (hc1 _ hr) (hc2 _ hs)
              · rw [if_neg ho] at hs
                exact app_neg_ok s c v w h he' hm' hz (by rw [← hneg]; exact hng) (by omega) (by omega) hr0 (by omega) (hc1 _ hr) (hc2 _ hs)
            | false =>
              have hs := snoc_some_pos _ c hd v hr hng
              have hr0 : 0 ≤ v := by
                rcases hv with ⟨hx, _⟩ | ⟨_, rfl, _⟩
                · rw [hng] at hx; cases hx
                · omega
              by_cases ho : 922337203685477580 < v ∨ (v = 922337203685477580 ∧ 7 < (c.toNat : Int) - 48)
              · rw [if_pos ho] at hs
                exact app_pos_over s c v w h he' hm' hz (by rw [← hneg]; exact hng) (by omega) (by omega) ho (hc1 _ hr) (hc2 _ hs)
              · rw [if_neg ho] at hs
                exact app_pos_ok s c v w h he' hm' hz (by rw [← hneg]; exact hng) (by omega) (by omega) hr0 (by omega) (hc1 _ hr) (hc2 _ hs)
    · have hd' : isD c = false := by simpa using hd
      have hdd : (c.toNat : Int) < 48 ∨ 57 < (c.toNat : Int) := by have := isD_false.1 hd'; omega
      have hbad := pv_snoc_bad s.data.toList c hd'
      by_cases he : s.data.toList = []
      · exact app_bad_e s c w h (by rw [ht, he]; rfl) hdd (hc1 _ (by rw [he]; exact pv_empty)) (hc2 _ hbad)
      · have he' : s.toList.isEmpty = false := by rw [ht]; simpa using he
        by_cases hm : s.data.toList = [45]
        · exact app_bad_m s c w h he' (by rw [ht, hm]; rfl) hdd (hc1 _ (by rw [hm]; exact pv_minus)) (hc2 _ hbad)
        · have hm' : (s.toList == [45]) = false := by rw [ht]; simpa using hm
          cases hr : pv s.data.toList with
          | none => exact app_bad_n s c w h he' hm' hdd (hc1 _ hr) (hc2 _ hbad)
          | some v => exact app_bad_s s c v w h he' hm' hdd (hc1 _ hr) (hc2 _ hbad)
  · exact app_long s _ w (by omega)

set_option maxRecDepth 100000 in
set_option maxHeartbeats 1600000 in
theorem append_lifted (os : Os) (started : os.Started) (H : Type) (enc : TypeId × Value → H) :
    ReturnsInTold none {} Tryf.checked os 4 .any Input.okWide ((OpenSpec.ofChange Rows.fnParseValueAppendDigitSpec).preRow enc Tryf.prog Tryf.f4 [] false Rows.fnParseValueAppendDigitRow.laid) (fun F => ((OpenSpec.ofChange Rows.fnParseValueAppendDigitSpec).at F).post enc Tryf.prog Tryf.f4 false true false false) (aloneAtReturn Tryf.prog) nothingAlways := by
  refine returnsInTold_of_row (C := Tryf.checked) (s := OpenSpec.ofChange Rows.fnParseValueAppendDigitSpec) (by kernel_rfl) Tryf.own started (by kernel_rfl) Tryf.func4
    (OpenSpec.witness_stopped_atRef (enc := enc) (C := Tryf.checked) false (laidOver (World.settled Tryf.prog os).heap.size (World.holding Tryf.prog os laidInput)) #[.string ⟨#[]⟩, .int .u8 0] rfl (by kernel_rfl) (by kernel_rfl) (by kernel_rfl)
      (OpenSpec.preRow_of_B rfl 8 (by kernel_rfl) (by kernel_rfl) (laid_start os _))) ?_
  intro F W base args ds gs before _ hF hval0 hW _ _ _ hL _
  have hval : ∀ (j : Nat) t v, Tryf.f4.params[j]? = some t → args[j]? = some v → Value.okWide Tryf.prog W .any base t v := hval0
  have hW' := hW
  obtain ⟨p, q, hA0, hV0, rfl, _, _⟩ := hW
  have hA : DataW.TrodAll enc Tryf.prog W 0 (fun _ => true) true Tryf.f4.params.toList args.toList ds p := hA0
  rw [Tryf.params4] at hA hval
  obtain ⟨v0, v1, d0, d1, p0, p1, rfl, rfl, rfl, h0, h1⟩ := trodAll_two hA
  obtain ⟨rfl, rfl⟩ := trodVars_none hV0
  obtain ⟨s, rfl, rfl, rfl, ws⟩ := open_string Tryf.underlying9 (hval 0 9 v0 rfl rfl) h0
  obtain ⟨x, rfl, rfl, rfl, wx⟩ := open_int Tryf.underlying5 (hval 1 5 v1 rfl rfl) h1
  clear hA0 hV0 hval0
  obtain ⟨hv0, hv1⟩ := laid_cells hL
  have hx : 0 ≤ x ∧ x ≤ 255 := by
    have := wx
    simp [Lit.wf, IntKind.min, IntKind.max, IntKind.signed, IntKind.bits] at this
    omega
  have hc : ((UInt8.ofNat x.toNat).toNat : Int) = x := by
    rw [UInt8.toNat_ofNat']; omega
  have hcall := app_any F.told s (UInt8.ofNat x.toNat) W hF hv0 hv1
  rw [hc] at hcall
  refine hcall.mono ?_
  rintro e W' ⟨rfl, bel⟩
  refine ⟨_, rfl, _, _, _, [], [], [], hW', ?_, ?_, ?_, bel.frame _, fun h => by cases h⟩
  · exact trodAll_mk1 (shut_bool Tryf.underlying4 true)
  · exact trodAll_mk2 (shut_string Tryf.underlying9 ws) (shut_int Tryf.underlying5 wx)
  · rfl

theorem append_told : Rows.FnParseValueAppendDigitToldSaid :=
  Claim7.holds_of_told_tied_any_at .later 4 Tryf.f4 "fmt.errorf" [] [] _ _ _ _ _ (by kernel_rfl) rfl rfl rfl Tryf.laidOut (by kernel_rfl) rfl ⟨rfl, rfl, rfl, rfl, rfl, rfl, rfl⟩ rfl rfl (by kernel_rfl) (by kernel_rfl) Tryf.func4 (by kernel_rfl)
    (of_decide_eq_true (by kernel_rfl)) (of_decide_eq_true (by kernel_rfl)) Tryf.stops.symm rfl Tryf.stopKnobs.symm (by kernel_rfl)
    (by kernel_rfl) (by kernel_rfl) (by kernel_rfl) (by kernel_rfl) (by kernel_rfl) (by kernel_rfl) (by kernel_rfl) (by kernel_rfl) (by kernel_rfl) rfl (by kernel_rfl) rfl rfl
    rfl rfl
    rfl (by kernel_rfl) (by kernel_rfl) (by kernel_rfl) (by decide) (by kernel_rfl) fnParseValueAppendDigit_row_tie
    (OpenClaim.moreEntering_of (by kernel_rfl) (by kernel_rfl) (by kernel_rfl) (by kernel_rfl) (by kernel_rfl) (by kernel_rfl) (by kernel_rfl) (by kernel_rfl) (by kernel_rfl) (by kernel_rfl))
    ⟨_, WideRow.started_initial, Tryf.quiet _⟩
    (fun os started _ H enc _ => append_lifted os started H enc)

end Go.Proofs.Qxb6618510aFmt
