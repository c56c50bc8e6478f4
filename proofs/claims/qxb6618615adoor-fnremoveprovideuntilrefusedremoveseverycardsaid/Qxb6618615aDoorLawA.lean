/-
  What the sizes give; the boxes.
-/
import Derived.Test.Qxb6618615aDoorRem
import Derived.Test.Qxb6618615aDoorPlain
import Derived.Test.Qxb6618615aDoorOpen
import Derived.Test.Qxb6618615aDoorTok2
namespace Go.Proofs.Qxb6618615aDoor
open Go.RowKit Go.Lib
set_option linter.unusedVariables false
set_option linter.unusedSimpArgs false

theorem caps_len (l : List ByteArray) : 16 * l.length ≤ capsSize l := by
  induction l with
  | nil => simp [capsSize]
  | cons c r ih => simp only [capsSize, List.length_cons]; omega
theorem lvl_le (t : List Lvl) (L : Lvl) (h : L ∈ t) : lvlSize L ≤ tokSize t := by
  induction t with
  | nil => cases h
  | cons K r ih =>
    simp only [tokSize]
    rcases List.mem_cons.1 h with rfl | h
    · omega
    · have := ih h; omega
theorem tok_le (ts : List (List Lvl)) (t : List Lvl) (h : t ∈ ts) : tokSize t ≤ toksSize ts := by
  induction ts with
  | nil => cases h
  | cons K r ih =>
    simp only [toksSize]
    rcases List.mem_cons.1 h with rfl | h
    · omega
    · have := ih h; omega
theorem good_of (t : List Lvl) (hf : ∀ L ∈ t, L.fits 140737488355328) (hs : tokSize t ≤ 1048576) : Good t ∧ tokFits t := by
  have h1 : ∀ L ∈ t, L.caps.length ≤ 1048576 ∧ L.nonce.length ≤ 1048576 ∧ L.sig.length ≤ 1048576 := fun L hL => by
    have a1 := lvl_le t L hL
    have a2 := caps_len L.caps
    simp only [lvlSize] at a1
    omega
  have h2 := sealed_length t
  refine ⟨⟨fun L hL => (h1 L hL).1, by omega, fun L hL => ?_⟩, h1⟩
  obtain ⟨_, _, _, _, _, _, _, _, e1, e2⟩ := hf L hL
  exact ⟨e1, e2⟩
theorem row_boxed27 {w : World} {t : List Lvl} {row : List Value} (h : RowAt (fun b => b < w.heap.size) w t row) :
    TokAt (fun b => b < (w.alloc (.cells row.toArray 27)).heap.size) (w.alloc (.cells row.toArray 27)) t (.pointer (some ⟨w.heap.size, 0, none⟩)) := by
  have hb : Below w.heap.size w (w.alloc (.cells row.toArray 27)) := (Below.refl _ w).alloc (Nat.le_refl _) _
  refine RowAt.tok ((h.kept (kept_of_below hb fun _ h => h)).mono fun b h => Nat.lt_of_lt_of_le h hb.size) (by simp) fun j v hj => ?_
  rw [Nat.zero_add, cell_of_row _ _ _ row.toArray 27 (0, 0) (heap_alloc_last w _)]
  simpa using hj
theorem ToksAt.kept {ok : Nat → Prop} {w w' : World} {v : Value} {ts : List (List Lvl)} (h : ToksAt ok w v ts) (hk : Kept ok w w') : ToksAt ok w' v ts := by
  obtain ⟨p, c, h1, h2, h3⟩ := h
  refine ⟨p, c, h1, h2, fun h0 => ?_⟩
  obtain ⟨M, o, e, hM, g⟩ := h3 h0
  exact ⟨M, o, e, hM, fun k hk' => TokAt.kept hk (g k hk')⟩
theorem ToksAt.mono {ok ok' : Nat → Prop} {w : World} {v : Value} {ts : List (List Lvl)} (h : ToksAt ok w v ts) (hm : ∀ b, ok b → ok' b) : ToksAt ok' w v ts := by
  obtain ⟨p, c, h1, h2, h3⟩ := h
  refine ⟨p, c, h1, h2, fun h0 => ?_⟩
  obtain ⟨M, o, e, hM, g⟩ := h3 h0
  exact ⟨M, o, e, hm _ hM, fun k hk' => TokAt.mono hm (g k hk')⟩
theorem ToksAt.slice {ok : Nat → Prop} {w : World} {v : Value} {ts : List (List Lvl)} (h : ToksAt ok w v ts) : ∃ p c, v = .slice p ts.length c := by
  obtain ⟨p, c, h1, _⟩ := h
  exact ⟨p, c, h1⟩
/-- The anchors boxed. -/
theorem anch_new {lo : Nat} {w : World} {v : Value} {ts : List (List Lvl)} {x y : Value} (h : ProvAt lo w.heap.size w v ts) : Anch lo w.heap.size w.heap.size (w.alloc (.cells #[x, y, v] 34)) ts := by
  have hb : Below w.heap.size w (w.alloc (.cells #[x, y, v] 34)) := (Below.refl _ w).alloc (Nat.le_refl _) _
  have hg := heap_alloc_last w (.cells #[x, y, v] 34)
  refine ⟨Nat.le_refl _, v, cell_of_row _ _ _ #[x, y, v] 34 (0, 0) hg, ?_, h.kept fun b hb' => hb.block b hb'⟩
  unfold World.frozen?
  rw [hg]; simp

/-- The state between two removals. -/
def Mid (lo hi A : Nat) (t : List Lvl) (ts cur : List (List Lvl)) (k : Nat) (w : World) : Prop :=
  Anch lo hi A w cur ∧ rest t cur = rest t ts ∧ many t cur + k = many t ts ∧ cur.length ≤ 1024 ∧ ∀ s ∈ cur, Good s
theorem Mid.one {lo hi A : Nat} {t : List Lvl} {ts cur : List (List Lvl)} {k : Nat} {w w' : World} (h : Mid lo hi A t ts cur k w) {i : Nat} (hi' : i < cur.length) (ha : alike t (cur[i]'hi') = true) (hA : Anch lo hi A w' (cur.eraseIdx i)) : Mid lo hi A t ts (cur.eraseIdx i) (k + 1) w' := by
  obtain ⟨_, h2, h3, h4, h5⟩ := h
  have e1 := many_erase t cur i hi' ha
  have e2 := rest_erase t cur i hi' ha
  refine ⟨hA, by rw [e2, h2], by omega, by rw [List.length_eraseIdx, if_pos hi']; omega, fun s hs => h5 s (List.mem_of_mem_eraseIdx hs)⟩
theorem Mid.done {lo hi A : Nat} {t : List Lvl} {ts cur : List (List Lvl)} {k : Nat} {w : World} (h : Mid lo hi A t ts cur k w) (hn : ∀ j (hj : j < cur.length), alike t (cur[j]'hj) = false) : k = many t ts ∧ cur = rest t ts := by
  obtain ⟨e1, e2⟩ := none_found t cur hn
  obtain ⟨_, h2, h3, _, _⟩ := h
  exact ⟨by omega, by rw [← h2, e2]⟩
end Go.Proofs.Qxb6618615aDoor
