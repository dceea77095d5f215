/-
  FnWordsMatchesGrammar (3): the walk. zzBytes (8).
-/
import Derived.Test.Qxb6602053aSameW
namespace Go.Proofs.Qxb6602053a
open Go.RowKit
set_option linter.unusedVariables false

theorem mm_len (E : Int) (N : Nat) : ∀ (l : List UInt8) (sk : Bool) (st : Option Nat) (q : Int) (i : Nat), (mm E N sk st q i l).length ≤ l.length + st.toList.length
  | [], sk, st, q, i => by cases sk <;> cases st <;> simp [mm]
  | c :: l, true, st, q, i => by
    have := mm_len E N l false st q (i + 1)
    cases st <;> (simp only [mm, List.length_cons]; simp at this ⊢; omega)
  | c :: l, false, st, q, i => by
    have h0 := fun sk q' => mm_len E N l sk (some (st.getD i)) q' (i + 1)
    have h1 := mm_len E N l false none 0 (i + 1)
    simp at h1
    by_cases b : q = 0 ∧ ((c.toNat : Int) = 32 ∨ (c.toNat : Int) = 9)
    · cases st with
      | none => rw [mm_blank_none b]; simp; omega
      | some a => rw [mm_blank_some b]; simp; omega
    · have fin : ∀ sk q', (mm E N sk (some (st.getD i)) q' (i + 1) l).length ≤ (c :: l).length + st.toList.length := fun sk q' => by
        have := h0 sk q'; simp at this ⊢; omega
      by_cases e : (c.toNat : Int) = E ∧ ¬ q = 39
      · rw [mm_esc b e]; exact fin _ _
      · by_cases o : q = 0 ∧ ((c.toNat : Int) = 39 ∨ (c.toNat : Int) = 34)
        · rw [mm_open b e o]; exact fin _ _
        · by_cases m : (c.toNat : Int) = q
          · rw [mm_shut b e o m]; exact fin _ _
          · rw [mm_plain b e o m]; exact fin _ _

theorem rest_len (E : Int) (s : ByteArray) : (rest E s 0).length ≤ s.size := by
  have := mm_len E s.size (D s 0) false none 0 0
  rw [D_length] at this
  simpa [rest] using this

/-- a row that has words, opened -/
theorem Got.form {s : ByteArray} {B : Nat} {w wr : World} {v : Value} {l : List (Nat × Nat)} (h : Got s B w wr v l) (hl : l ≠ []) :
    ∃ g cap, v = .slice (some ⟨g, 0, none⟩) l.length cap ∧ B ≤ g ∧ g < wr.heap.size ∧ ∀ j, j < l.length → wr.cell? ⟨g, j, none⟩ = (wordsV s l)[j]? := by
  obtain ⟨hlen, hv⟩ := h.own
  rcases hv with ⟨_, h0⟩ | ⟨g, cap, cur, hv, hB, hb, _⟩
  · exact absurd (List.length_eq_zero_iff.1 h0) hl
  · have hlt := (h.own.lt g (by rw [hv]; rfl)).2
    refine ⟨g, cap, hv, hB, hlt, fun j hj => ?_⟩
    have ho := h.own
    rw [hv] at ho
    exact ho.cellAt j (by omega)

theorem wordsV_at (s : ByteArray) (l : List (Nat × Nat)) (j : Nat) (h : j < l.length) : ∃ x : ByteArray, (wordsV s l)[j]? = some (.string x) := by
  refine ⟨s.extract l[j].1 l[j].2, ?_⟩
  simp [wordsV, List.getElem?_eq_getElem h]

/-- sameWords at the two rows -/
theorem same_got {s : ByteArray} {B : Nat} {w w1 w2 : World} {v1 v2 : Value} {l : List (Nat × Nat)} (h1 : Got s B w w1 v1 l) (h2 : Got s w1.heap.size w1 w2 v2 l) (hl : l.length ≤ 2097152) :
    Calls Try.prog 11 #[v1, v2] w2 fun e w' => e = .returned (.bool true) ∧ Drawn w2 w' := by
  by_cases e : l = []
  · rw [h1.nil e, h2.nil e]; exact same_nil w2
  · obtain ⟨g1, c1, rfl, _, hb1, hc1⟩ := h1.form e
    obtain ⟨g2, c2, rfl, _, hb2, hc2⟩ := h2.form e
    refine same_some g1 g2 l.length c1 c2 w2 hl fun j hj => ?_
    obtain ⟨x, hx⟩ := wordsV_at s l j hj
    refine ⟨x, ?_, ?_⟩
    · rw [h2.below.cell (p := ⟨g1, j, none⟩) hb1, hc1 j hj, hx]
    · rw [hc2 j hj, hx]

theorem zz8_yes (a : ByteArray) (E : Int) (w : World) (h : a.size ≤ 1048576) :
    Calls Try.prog 8 #[.string a, .int .u8 E] w fun e w' => e = .returned (.bool true) ∧ w' = w := by
  go_enter Try.func8, Try.ntmps8
  go_wp2
  go_ret
  exact ⟨rfl, rfl⟩

theorem zz8_no (a : ByteArray) (E : Int) (w : World) (h : ¬ a.size ≤ 1048576) :
    Calls Try.prog 8 #[.string a, .int .u8 E] w fun e w' => e = .returned (.bool false) ∧ w' = w := by
  go_enter Try.func8, Try.ntmps8
  go_wp2
  go_ret
  exact ⟨rfl, rfl⟩

set_option maxHeartbeats 1000000 in
theorem law_walk (s : ByteArray) (E : Int) (w : World) :
    Calls Try.prog 3 #[.string s, .int .u8 E] w fun e w' => e = .returned (.bool true) ∧ Below w.heap.size w w' := by
  by_cases hfit : s.size ≤ 1048576
  · have hz := fun w => zz8_yes s E w hfit
    go_enter Try.func3, Try.ntmps3
    go_wp2_with (go_at_call 8; refine (hz _).mono ?_; rintro e w' ⟨rfl, rfl⟩)
    refine (words_any E s _ hfit).mono ?_
    rintro e w1 ⟨v1, rfl, g1⟩
    have G1 : Hid (Got s w'.heap.size w' w1 v1 (rest E s 0)) := g1
    clear g1 hz
    go_wp2_with fail
    refine (gram_any E s _ hfit).mono ?_
    rintro e w2 ⟨v2, rfl, g2⟩
    have G2 : Hid (Got s w1.heap.size w1 w2 v2 (rest E s 0)) := g2
    clear g2
    go_wp2_with fail
    refine (same_got G1.out G2.out (by have := rest_len E s; omega)).mono ?_
    rintro e w3 ⟨rfl, d3⟩
    have HB : Hid (Below w'.heap.size w' w3) := (G1.out.below.trans (G2.out.below.mono G1.out.size)).trans (d3.below _)
    clear d3
    go_wp2_with fail
    go_ret
    exact ⟨rfl, HB.out⟩
  · go_enter Try.func3, Try.ntmps3
    go_wp2_with (go_at_call 8; refine (zz8_no s E _ hfit).mono ?_; rintro e w' ⟨rfl, rfl⟩)
    go_ret
    exact ⟨rfl, Below.refl _ _⟩

end Go.Proofs.Qxb6602053a
