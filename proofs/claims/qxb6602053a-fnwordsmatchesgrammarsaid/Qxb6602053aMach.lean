/-
  The word grammar as one machine over the bytes that are left: plain functions, no program, no world.
  q: the quote that is open (0, 39 or 34); the first Bool: is the byte at hand taken as it is?
-/
import Derived.Lib.Strings
namespace Go.Proofs.Qxb6602053a
open Go
set_option linter.unusedVariables false

/-- how many bytes are left of the word at hand -/
def we (E : Int) : Bool → Int → List UInt8 → Nat
  | _, _, [] => 0
  | true, q, _ :: l => 1 + we E false q l
  | false, q, c :: l =>
    if q = 0 ∧ ((c.toNat : Int) = 32 ∨ (c.toNat : Int) = 9) then 0
    else if (c.toNat : Int) = E ∧ ¬ q = 39 then 1 + we E true q l
    else if q = 0 ∧ ((c.toNat : Int) = 39 ∨ (c.toNat : Int) = 34) then 1 + we E false (c.toNat : Int) l
    else if (c.toNat : Int) = q then 1 + we E false 0 l
    else 1 + we E false q l

/-- the words (where each starts, where it ends) that are still to come; st: where the word at hand began -/
def mm (E : Int) (N : Nat) : Bool → Option Nat → Int → Nat → List UInt8 → List (Nat × Nat)
  | _, none, _, _, [] => []
  | _, some a, _, _, [] => [(a, N)]
  | true, st, q, i, _ :: l => mm E N false st q (i + 1) l
  | false, st, q, i, c :: l =>
    if q = 0 ∧ ((c.toNat : Int) = 32 ∨ (c.toNat : Int) = 9) then
      (match st with
       | none => mm E N false none 0 (i + 1) l
       | some a => (a, i) :: mm E N false none 0 (i + 1) l)
    else if (c.toNat : Int) = E ∧ ¬ q = 39 then mm E N true (some (st.getD i)) q (i + 1) l
    else if q = 0 ∧ ((c.toNat : Int) = 39 ∨ (c.toNat : Int) = 34) then mm E N false (some (st.getD i)) (c.toNat : Int) (i + 1) l
    else if (c.toNat : Int) = q then mm E N false (some (st.getD i)) 0 (i + 1) l
    else mm E N false (some (st.getD i)) q (i + 1) l

section
variable {E q : Int} {N i a : Nat} {c : UInt8} {l : List UInt8} {st : Option Nat}

theorem mm_blank_none (h : q = 0 ∧ ((c.toNat : Int) = 32 ∨ (c.toNat : Int) = 9)) : mm E N false none q i (c :: l) = mm E N false none 0 (i + 1) l := by
  simp only [mm]; rw [if_pos h]
theorem mm_blank_some (h : q = 0 ∧ ((c.toNat : Int) = 32 ∨ (c.toNat : Int) = 9)) : mm E N false (some a) q i (c :: l) = (a, i) :: mm E N false none 0 (i + 1) l := by
  simp only [mm]; rw [if_pos h]
theorem mm_esc (h : ¬ (q = 0 ∧ ((c.toNat : Int) = 32 ∨ (c.toNat : Int) = 9))) (g : (c.toNat : Int) = E ∧ ¬ q = 39) : mm E N false st q i (c :: l) = mm E N true (some (st.getD i)) q (i + 1) l := by
  cases st <;> (simp only [mm]; rw [if_neg h, if_pos g])
theorem mm_open (h : ¬ (q = 0 ∧ ((c.toNat : Int) = 32 ∨ (c.toNat : Int) = 9))) (g : ¬ ((c.toNat : Int) = E ∧ ¬ q = 39)) (k : q = 0 ∧ ((c.toNat : Int) = 39 ∨ (c.toNat : Int) = 34)) :
    mm E N false st q i (c :: l) = mm E N false (some (st.getD i)) (c.toNat : Int) (i + 1) l := by
  cases st <;> (simp only [mm]; rw [if_neg h, if_neg g, if_pos k])
theorem mm_shut (h : ¬ (q = 0 ∧ ((c.toNat : Int) = 32 ∨ (c.toNat : Int) = 9))) (g : ¬ ((c.toNat : Int) = E ∧ ¬ q = 39)) (k : ¬ (q = 0 ∧ ((c.toNat : Int) = 39 ∨ (c.toNat : Int) = 34))) (m : (c.toNat : Int) = q) :
    mm E N false st q i (c :: l) = mm E N false (some (st.getD i)) 0 (i + 1) l := by
  cases st <;> (simp only [mm]; rw [if_neg h, if_neg g, if_neg k, if_pos m])
theorem mm_plain (h : ¬ (q = 0 ∧ ((c.toNat : Int) = 32 ∨ (c.toNat : Int) = 9))) (g : ¬ ((c.toNat : Int) = E ∧ ¬ q = 39)) (k : ¬ (q = 0 ∧ ((c.toNat : Int) = 39 ∨ (c.toNat : Int) = 34))) (m : ¬ (c.toNat : Int) = q) :
    mm E N false st q i (c :: l) = mm E N false (some (st.getD i)) q (i + 1) l := by
  cases st <;> (simp only [mm]; rw [if_neg h, if_neg g, if_neg k, if_neg m])

theorem we_blank (h : q = 0 ∧ ((c.toNat : Int) = 32 ∨ (c.toNat : Int) = 9)) : we E false q (c :: l) = 0 := by simp only [we]; rw [if_pos h]
theorem we_esc (h : ¬ (q = 0 ∧ ((c.toNat : Int) = 32 ∨ (c.toNat : Int) = 9))) (g : (c.toNat : Int) = E ∧ ¬ q = 39) : we E false q (c :: l) = 1 + we E true q l := by simp only [we]; rw [if_neg h, if_pos g]
theorem we_open (h : ¬ (q = 0 ∧ ((c.toNat : Int) = 32 ∨ (c.toNat : Int) = 9))) (g : ¬ ((c.toNat : Int) = E ∧ ¬ q = 39)) (k : q = 0 ∧ ((c.toNat : Int) = 39 ∨ (c.toNat : Int) = 34)) :
    we E false q (c :: l) = 1 + we E false (c.toNat : Int) l := by simp only [we]; rw [if_neg h, if_neg g, if_pos k]
theorem we_shut (h : ¬ (q = 0 ∧ ((c.toNat : Int) = 32 ∨ (c.toNat : Int) = 9))) (g : ¬ ((c.toNat : Int) = E ∧ ¬ q = 39)) (k : ¬ (q = 0 ∧ ((c.toNat : Int) = 39 ∨ (c.toNat : Int) = 34))) (m : (c.toNat : Int) = q) :
    we E false q (c :: l) = 1 + we E false 0 l := by simp only [we]; rw [if_neg h, if_neg g, if_neg k, if_pos m]
theorem we_plain (h : ¬ (q = 0 ∧ ((c.toNat : Int) = 32 ∨ (c.toNat : Int) = 9))) (g : ¬ ((c.toNat : Int) = E ∧ ¬ q = 39)) (k : ¬ (q = 0 ∧ ((c.toNat : Int) = 39 ∨ (c.toNat : Int) = 34))) (m : ¬ (c.toNat : Int) = q) :
    we E false q (c :: l) = 1 + we E false q l := by simp only [we]; rw [if_neg h, if_neg g, if_neg k, if_neg m]
end

theorem we_le (E : Int) : ∀ (l : List UInt8) (sk : Bool) (q : Int), we E sk q l ≤ l.length
  | [], sk, q => by cases sk <;> simp [we]
  | c :: l, true, q => by simp only [we, List.length_cons]; have := we_le E l false q; omega
  | c :: l, false, q => by
    have h0 := we_le E l false q
    have h1 := we_le E l true q
    have h2 := we_le E l false (c.toNat : Int)
    have h3 := we_le E l false 0
    simp only [we, List.length_cons]
    split
    · omega
    · split
      · omega
      · split
        · omega
        · split <;> omega

/-- a word that has begun: it is read to its end, then all that follows -/
theorem mm_word (E : Int) (N : Nat) : ∀ (l : List UInt8) (sk : Bool) (a : Nat) (q : Int) (i : Nat), N = i + l.length →
    mm E N sk (some a) q i l = (a, i + we E sk q l) :: mm E N false none 0 (i + we E sk q l) (l.drop (we E sk q l))
  | [], sk, a, q, i, h => by
    simp at h; subst h
    cases sk <;> simp [mm, we]
  | c :: l, true, a, q, i, h => by
    have := mm_word E N l false a q (i + 1) (by simp at h; omega)
    simp only [mm, we]
    rw [this, show 1 + we E false q l = we E false q l + 1 by omega, List.drop_succ_cons, show i + 1 + we E false q l = i + (we E false q l + 1) by omega]
  | c :: l, false, a, q, i, h => by
    have hl : N = i + 1 + l.length := by simp at h; omega
    have key : ∀ (sk : Bool) (q' : Int), mm E N false (some a) q i (c :: l) = mm E N sk (some a) q' (i + 1) l → we E false q (c :: l) = 1 + we E sk q' l →
        mm E N false (some a) q i (c :: l) = (a, i + we E false q (c :: l)) :: mm E N false none 0 (i + we E false q (c :: l)) ((c :: l).drop (we E false q (c :: l))) := by
      intro sk q' e1 e2
      rw [e1, e2, mm_word E N l sk a q' (i + 1) hl, show 1 + we E sk q' l = we E sk q' l + 1 by omega, List.drop_succ_cons, show i + 1 + we E sk q' l = i + (we E sk q' l + 1) by omega]
    by_cases b : q = 0 ∧ ((c.toNat : Int) = 32 ∨ (c.toNat : Int) = 9)
    · rw [mm_blank_some b, we_blank b, List.drop_zero, mm_blank_none ⟨rfl, b.2⟩]; rfl
    · by_cases e : (c.toNat : Int) = E ∧ ¬ q = 39
      · exact key true q (mm_esc b e) (we_esc b e)
      · by_cases o : q = 0 ∧ ((c.toNat : Int) = 39 ∨ (c.toNat : Int) = 34)
        · exact key false _ (mm_open b e o) (we_open b e o)
        · by_cases m : (c.toNat : Int) = q
          · exact key false 0 (mm_shut b e o m) (we_shut b e o m)
          · exact key false q (mm_plain b e o m) (we_plain b e o m)

/-- the bytes from place i on -/
def D (s : ByteArray) (i : Nat) : List UInt8 := s.data.toList.drop i
theorem D_cons (s : ByteArray) (i : Nat) (h : i < s.size) : D s i = s[i] :: D s (i + 1) := by
  unfold D; rw [List.drop_eq_getElem_cons (by simpa using h)]; rfl
theorem D_nil (s : ByteArray) (i : Nat) (h : s.size ≤ i) : D s i = [] := by
  unfold D; exact List.drop_of_length_le (by simpa using h)
theorem D_length (s : ByteArray) (i : Nat) : (D s i).length = s.size - i := by unfold D; simp
theorem D_drop (s : ByteArray) (i k : Nat) : (D s i).drop k = D s (i + k) := by unfold D; rw [List.drop_drop]

/-- the byte behind an escape is taken as it is -/
theorem mm_skip (E : Int) (s : ByteArray) (N : Nat) (st : Option Nat) (q : Int) (i : Nat) : mm E N true st q i (D s i) = mm E N false st q (i + 1) (D s (i + 1)) := by
  by_cases h : i < s.size
  · rw [D_cons s i h]; cases st <;> simp only [mm]
  · rw [D_nil s i (by omega), D_nil s (i + 1) (by omega)]; cases st <;> simp only [mm]

/-- the end of the word, of which all up to place i is read; the place may stand one behind the text -/
def fin (E : Int) (s : ByteArray) (q : Int) (i : Nat) : Nat := min i s.size + we E false q (D s i)

theorem fin_end (E : Int) (s : ByteArray) (q : Int) (i : Nat) (h : s.size ≤ i) : fin E s q i = s.size := by
  unfold fin; rw [D_nil s i h]; simp only [we]; omega

theorem fin_le (E : Int) (s : ByteArray) (q : Int) (i : Nat) : fin E s q i ≤ s.size := by
  unfold fin
  have := we_le E (D s i) false q
  rw [D_length] at this
  omega

section
variable {E q : Int} {s : ByteArray} {i : Nat}
theorem fin_step {q' : Int} (hi : i < s.size) (h : we E false q (s[i] :: D s (i + 1)) = 1 + we E false q' (D s (i + 1))) : fin E s q i = fin E s q' (i + 1) := by
  unfold fin; rw [D_cons s i hi, h]; omega
theorem fin_blank (hi : i < s.size) (h : q = 0 ∧ ((s[i].toNat : Int) = 32 ∨ (s[i].toNat : Int) = 9)) : fin E s q i = i := by
  unfold fin; rw [D_cons s i hi, we_blank h]; omega
theorem fin_esc (hi : i < s.size) (h : ¬ (q = 0 ∧ ((s[i].toNat : Int) = 32 ∨ (s[i].toNat : Int) = 9))) (g : (s[i].toNat : Int) = E ∧ ¬ q = 39) : fin E s q i = fin E s q (i + 2) := by
  unfold fin
  rw [D_cons s i hi, we_esc h g]
  by_cases h2 : i + 1 < s.size
  · rw [D_cons s (i + 1) h2, show i + 1 + 1 = i + 2 from rfl]; simp only [we]; omega
  · rw [D_nil s (i + 1) (by omega), D_nil s (i + 2) (by omega)]; simp only [we]; omega
theorem fin_open (hi : i < s.size) (h : ¬ (q = 0 ∧ ((s[i].toNat : Int) = 32 ∨ (s[i].toNat : Int) = 9))) (g : ¬ ((s[i].toNat : Int) = E ∧ ¬ q = 39)) (k : q = 0 ∧ ((s[i].toNat : Int) = 39 ∨ (s[i].toNat : Int) = 34)) :
    fin E s q i = fin E s (s[i].toNat : Int) (i + 1) := fin_step hi (we_open h g k)
theorem fin_shut (hi : i < s.size) (h : ¬ (q = 0 ∧ ((s[i].toNat : Int) = 32 ∨ (s[i].toNat : Int) = 9))) (g : ¬ ((s[i].toNat : Int) = E ∧ ¬ q = 39)) (k : ¬ (q = 0 ∧ ((s[i].toNat : Int) = 39 ∨ (s[i].toNat : Int) = 34))) (m : (s[i].toNat : Int) = q) :
    fin E s q i = fin E s 0 (i + 1) := fin_step hi (we_shut h g k m)
theorem fin_plain (hi : i < s.size) (h : ¬ (q = 0 ∧ ((s[i].toNat : Int) = 32 ∨ (s[i].toNat : Int) = 9))) (g : ¬ ((s[i].toNat : Int) = E ∧ ¬ q = 39)) (k : ¬ (q = 0 ∧ ((s[i].toNat : Int) = 39 ∨ (s[i].toNat : Int) = 34))) (m : ¬ (s[i].toNat : Int) = q) :
    fin E s q i = fin E s q (i + 1) := fin_step hi (we_plain h g k m)
end

/-- the words from place i on, none begun -/
def rest (E : Int) (s : ByteArray) (i : Nat) : List (Nat × Nat) := mm E s.size false none 0 i (D s i)

theorem rest_end (E : Int) (s : ByteArray) (i : Nat) (h : s.size ≤ i) : rest E s i = [] := by
  unfold rest; rw [D_nil s i h]; simp only [mm]
theorem rest_blank (E : Int) (s : ByteArray) (i : Nat) (hi : i < s.size) (h : (s[i].toNat : Int) = 32 ∨ (s[i].toNat : Int) = 9) : rest E s i = rest E s (i + 1) := by
  unfold rest; rw [D_cons s i hi, mm_blank_none ⟨rfl, h⟩]

theorem begin_word (E : Int) (N : Nat) (q : Int) (i : Nat) (c : UInt8) (l : List UInt8) (h : ¬ (q = 0 ∧ ((c.toNat : Int) = 32 ∨ (c.toNat : Int) = 9))) : mm E N false none q i (c :: l) = mm E N false (some i) q i (c :: l) := by
  simp only [mm]; rw [if_neg h, if_neg h]; rfl

theorem rest_word (E : Int) (s : ByteArray) (i : Nat) (hi : i < s.size) (h : ¬ ((s[i].toNat : Int) = 32 ∨ (s[i].toNat : Int) = 9)) : rest E s i = (i, fin E s 0 i) :: rest E s (fin E s 0 i) := by
  have hl : s.size = i + (D s i).length := by rw [D_length]; omega
  have e := mm_word E s.size (D s i) false i 0 i hl
  have ef : i + we E false 0 (D s i) = fin E s 0 i := by unfold fin; omega
  rw [ef] at e
  have e2 : mm E s.size false none 0 i (D s i) = mm E s.size false (some i) 0 i (D s i) := by
    rw [D_cons s i hi]; exact begin_word E s.size 0 i _ _ (fun x => h x.2)
  unfold rest
  rw [e2, e, D_drop, ef]

theorem fin_gt (E : Int) (s : ByteArray) (i : Nat) (hi : i < s.size) (h : ¬ ((s[i].toNat : Int) = 32 ∨ (s[i].toNat : Int) = 9)) : i < fin E s 0 i := by
  have h' : ¬ ((0 : Int) = 0 ∧ ((s[i].toNat : Int) = 32 ∨ (s[i].toNat : Int) = 9)) := fun x => h x.2
  have : ∀ n, we E false 0 (s[i] :: D s (i + 1)) = 1 + n → i < fin E s 0 i := fun n e => by
    unfold fin; rw [D_cons s i hi, e]; omega
  by_cases e : (s[i].toNat : Int) = E ∧ ¬ (0 : Int) = 39
  · exact this _ (we_esc h' e)
  · by_cases o : (0 : Int) = 0 ∧ ((s[i].toNat : Int) = 39 ∨ (s[i].toNat : Int) = 34)
    · exact this _ (we_open h' e o)
    · by_cases m : (s[i].toNat : Int) = 0
      · exact this _ (we_shut h' e o m)
      · exact this _ (we_plain h' e o m)

end Go.Proofs.Qxb6602053a
