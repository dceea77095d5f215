/-
  Plain functions for FromDomain and its model: no program, no world.
-/
import Derived.Lib.Strings
import Derived.Lib.LastIndexByte
namespace Go.Proofs.Qxb6601846a
open Go
set_option linter.unusedVariables false

/-- the byte at place i, as a number -/
def gt (s : ByteArray) (i : Nat) : Int := ((s.data[i]!).toNat : Int)

theorem bang (s : ByteArray) (i : Nat) (h : i < s.size) : s.data[i]! = s[i] := by
  rw [getElem!_pos s.data i (by simpa using h)]; rfl

theorem gt_at (s : ByteArray) (i : Nat) (h : i < s.size) : (s[i].toNat : Int) = gt s i := by
  unfold gt; rw [bang s i h]

theorem gt_bd (s : ByteArray) (i : Nat) : 0 ≤ gt s i ∧ gt s i ≤ 255 := by
  unfold gt; have := UInt8.toNat_lt (s.data[i]!); omega

theorem bang_extract (s : ByteArray) (a b i : Nat) (hb : b ≤ s.size) (h : a + i < b) : (s.extract a b).data[i]! = s.data[a + i]! := by
  have h1 : i < (s.extract a b).size := by simp; omega
  rw [bang _ i h1, bang s (a + i) (by omega)]
  simp [ByteArray.getElem_extract]

theorem gt_extract (s : ByteArray) (a b i : Nat) (hb : b ≤ s.size) (h : a + i < b) : gt (s.extract a b) i = gt s (a + i) := by
  unfold gt; rw [bang_extract s a b i hb h]

/-- one final dot dropped -/
def trimDot (s : ByteArray) : ByteArray := if 0 < s.size ∧ gt s (s.size - 1) = 46 then s.extract 0 (s.size - 1) else s

theorem trimDot_le (s : ByteArray) : (trimDot s).size ≤ s.size := by
  unfold trimDot; split
  · simp
  · exact Nat.le_refl _

theorem ext_of_gt {a b : ByteArray} (hs : a.size = b.size) (h : ∀ i, i < a.size → gt a i = gt b i) : a = b := by
  apply ByteArray.ext
  apply Array.ext
  · exact hs
  · intro i h1 h2
    have e := h i h1
    unfold gt at e
    rw [getElem!_pos a.data i h1, getElem!_pos b.data i h2] at e
    exact UInt8.toNat_inj.1 (by omega)

/-- is the last byte a dot? as the library asks it -/
theorem last_is (s : ByteArray) (h : 0 < s.size) : ((s.extract (s.size - 1) s.size).toList == (⟨#[46]⟩ : ByteArray).toList) = decide (gt s (s.size - 1) = 46) := by
  rw [Lib.toList_data, Lib.toList_data]
  rw [Bool.eq_iff_iff]
  simp only [beq_iff_eq, decide_eq_true_iff]
  constructor
  · intro e
    have e1 : s.extract (s.size - 1) s.size = ⟨#[46]⟩ := by
      rw [← Lib.mk_data (s.extract (s.size - 1) s.size), e]
    have := gt_extract s (s.size - 1) s.size 0 (Nat.le_refl _) (by omega)
    rw [e1] at this
    rw [← Nat.add_zero (s.size - 1), ← this]
    rfl
  · intro e
    have e1 : s.extract (s.size - 1) s.size = ⟨#[46]⟩ := by
      have hz : (s.extract (s.size - 1) s.size).size = 1 := by simp; omega
      refine ext_of_gt hz fun i hi => ?_
      obtain rfl : i = 0 := by omega
      rw [gt_extract s (s.size - 1) s.size 0 (Nat.le_refl _) (by omega), Nat.add_zero, e]
      rfl
    rw [e1]

theorem trim_lib (s : ByteArray) : (⟨(Lib.trimSuffix s.data.toList (⟨#[46]⟩ : ByteArray).data.toList).toArray⟩ : ByteArray) = trimDot s := by
  unfold trimDot
  have z1 : (⟨#[46]⟩ : ByteArray).size = 1 := rfl
  by_cases h : 0 < s.size
  · have hl := last_is s h
    by_cases e : gt s (s.size - 1) = 46
    · rw [if_pos ⟨h, e⟩]
      exact Lib.trimSuffix_hit s ⟨#[46]⟩ (by rw [z1]; omega) (by rw [z1, hl]; simp [e])
    · rw [if_neg (by omega)]
      exact Lib.trimSuffix_miss s ⟨#[46]⟩ (by rw [z1, hl]; simp [e])
  · rw [if_neg (by omega)]
    exact Lib.trimSuffix_miss s ⟨#[46]⟩ (by rw [z1]; simp; omega)

/-- digits at the even places, dots at the odd ones, an odd length of at most 29 -/
def okBody (B : ByteArray) : Prop := B.size % 2 = 1 ∧ B.size ≤ 29 ∧ ∀ i, i < B.size → (i % 2 = 0 → 48 ≤ gt B i ∧ gt B i ≤ 57) ∧ (i % 2 = 1 → gt B i = 46)
def okB (B : ByteArray) : Bool := decide (B.size % 2 = 1 ∧ B.size ≤ 29 ∧ ∀ i, i < B.size → (i % 2 = 0 → 48 ≤ gt B i ∧ gt B i ≤ 57) ∧ (i % 2 = 1 → gt B i = 46))
theorem okB_iff (B : ByteArray) : okB B = true ↔ okBody B := by unfold okB okBody; exact decide_eq_true_iff
theorem okB_true {B : ByteArray} (h : okBody B) : okB B = true := (okB_iff B).2 h
theorem okB_false {B : ByteArray} (h : ¬ okBody B) : okB B = false := by
  cases e : okB B
  · rfl
  · exact absurd ((okB_iff B).1 e) h
theorem of_okB {B : ByteArray} (h : okB B = true) : okBody B := (okB_iff B).1 h

/-- the digits, from the right -/
def digL (B : ByteArray) (k : Nat) : List UInt8 := (List.range k).map fun j => B.data[B.size - 1 - 2 * j]!
def digs (B : ByteArray) : ByteArray := ⟨(digL B ((B.size + 1) / 2)).toArray⟩

theorem digL_length (B : ByteArray) (k : Nat) : (digL B k).length = k := by simp [digL]
theorem digL_at (B : ByteArray) (k j : Nat) (h : j < (digL B k).length) : ((digL B k)[j].toNat : Int) = gt B (B.size - 1 - 2 * j) := by
  simp [digL, gt]

/-- the last dot of S: behind place p there is none -/
def LastDot (S : ByteArray) (p : Nat) : Prop := p ≤ S.size ∧ (p = 0 ∨ gt S (p - 1) = 46) ∧ ∀ j, p ≤ j → j < S.size → gt S j ≠ 46

theorem lastDot_of (S : ByteArray) : ∃ p : Nat, Lib.lastIndexByte S 46 = (p : Int) - 1 ∧ LastDot S p := by
  rcases Lib.lastIndexByte_spec S 46 with ⟨e, h⟩ | ⟨i, hi, e, hc, hn⟩
  · exact ⟨0, by rw [e]; rfl, Nat.zero_le _, .inl rfl, fun j _ hj => h j hj⟩
  · exact ⟨i + 1, by rw [e]; omega, by omega, .inr hc, fun j h1 h2 => hn j (by omega) h2⟩

/-- the loop of FromDomain, before its round number n: S is what is left of B -/
def Left (B S : ByteArray) (n : Nat) : Prop :=
  S.size + 2 * n = B.size ∧ n ≤ 15 ∧ (∀ j, j < S.size → gt S j = gt B j) ∧ ∀ j, j < n → (48 ≤ gt B (B.size - 1 - 2 * j) ∧ gt B (B.size - 1 - 2 * j) ≤ 57) ∧ gt B (B.size - 2 - 2 * j) = 46

theorem Left.start (B : ByteArray) : Left B B 0 := ⟨by omega, by omega, fun _ _ => rfl, fun j hj => by omega⟩

theorem Left.bad_label {B S : ByteArray} {n p : Nat} (h : Left B S n) (hp : LastDot S p) (hne : ¬ S.size - p = 1) : ¬ okBody B := by
  rintro ⟨ho, _, hall⟩
  obtain ⟨h1, _, h3, _⟩ := h
  obtain ⟨p1, p2, p3⟩ := hp
  have hL : S.size % 2 = 1 := by omega
  have hd := (hall (S.size - 1) (by omega)).1 (by omega)
  rw [← h3 _ (by omega)] at hd
  have hp1 : p ≤ S.size - 1 := by
    apply Classical.byContradiction
    intro hc
    have e : p = S.size := by omega
    rcases p2 with h | h
    · omega
    · rw [e] at h; omega
  by_cases e1 : S.size = 1
  · omega
  · have hdot := (hall (S.size - 2) (by omega)).2 (by omega)
    rw [← h3 _ (by omega)] at hdot
    have hlt : ¬ p ≤ S.size - 2 := fun hc => p3 _ hc (by omega) hdot
    omega

theorem Left.bad_digit {B S : ByteArray} {n p : Nat} (h : Left B S n) (he : S.size - p = 1) (hd : ¬ (48 ≤ gt S p ∧ gt S p ≤ 57)) : ¬ okBody B := by
  rintro ⟨ho, _, hall⟩
  obtain ⟨h1, _, h3, _⟩ := h
  have := (hall (S.size - 1) (by omega)).1 (by omega)
  rw [← h3 _ (by omega), show S.size - 1 = p by omega] at this
  exact hd this

theorem Left.too_long {B S : ByteArray} {n p : Nat} (h : Left B S n) (he : S.size - p = 1) (hn : n = 15) : ¬ okBody B := by
  rintro ⟨_, h29, _⟩
  obtain ⟨h1, _⟩ := h
  omega

theorem Left.done {B S : ByteArray} {n : Nat} (h : Left B S n) (he : S.size = 1) (hn : ¬ n = 15) (hd : 48 ≤ gt S 0 ∧ gt S 0 ≤ 57) : okBody B := by
  obtain ⟨h1, h2, h3, h4⟩ := h
  refine ⟨by omega, by omega, fun i hi => ?_⟩
  by_cases e0 : i = 0
  · subst e0; exact ⟨fun _ => by rw [← h3 0 (by omega)]; exact hd, fun h => by omega⟩
  · constructor
    · intro hm
      have := (h4 ((B.size - 1 - i) / 2) (by omega)).1
      rw [show B.size - 1 - 2 * ((B.size - 1 - i) / 2) = i by omega] at this
      exact this
    · intro hm
      have := (h4 ((B.size - 2 - i) / 2) (by omega)).2
      rw [show B.size - 2 - 2 * ((B.size - 2 - i) / 2) = i by omega] at this
      exact this

theorem Left.next {B S : ByteArray} {n p : Nat} (h : Left B S n) (hp : LastDot S p) (he : S.size - p = 1) (hn : ¬ n = 15) (h0 : ¬ p = 0) (hd : 48 ≤ gt S p ∧ gt S p ≤ 57) : Left B (S.extract 0 (p - 1)) (n + 1) := by
  obtain ⟨h1, h2, h3, h4⟩ := h
  obtain ⟨p1, p2, p3⟩ := hp
  have hz : (S.extract 0 (p - 1)).size = p - 1 := by simp; omega
  refine ⟨by omega, by omega, fun j hj => ?_, fun j hj => ?_⟩
  · rw [gt_extract S 0 (p - 1) j (by omega) (by omega), Nat.zero_add]; exact h3 j (by omega)
  · by_cases e : j = n
    · subst e
      rw [show B.size - 1 - 2 * j = p by omega, show B.size - 2 - 2 * j = p - 1 by omega, ← h3 p (by omega), ← h3 (p - 1) (by omega)]
      exact ⟨hd, p2.resolve_left h0⟩
    · exact h4 j (by omega)

theorem Left.last_digit {B S : ByteArray} {n p : Nat} (h : Left B S n) (he : S.size - p = 1) : gt S p = gt B (B.size - 1 - 2 * n) := by
  obtain ⟨h1, h2, h3, h4⟩ := h
  rw [h3 p (by omega), show B.size - 1 - 2 * n = p by omega]

end Go.Proofs.Qxb6601846a
