/-
  nameLen (21), ZZnameLen (15), isNameByte (16): each by a contract.
-/
import Derived.Test.Qxb6602053aProg
import Derived.WalkKit
import Derived.ProofKit
namespace Go.Proofs.Qxb6602053a
open Go.RowKit
set_option linter.unusedVariables false

theorem ret_int {k : IntKind} {a b : Int} (h : a = b) : Ending.returned (.int k a) = .returned (.int k b) := by rw [h]
theorem ret_bool {a b : Bool} (h : a = b) : Ending.returned (.bool a) = .returned (.bool b) := by rw [h]

/-- may the byte c stand in a name (at its head)? -/
def isN (c : Int) (first : Prop) : Prop := c = 95 ∨ (97 ≤ c ∧ c ≤ 122) ∨ (65 ≤ c ∧ c ≤ 90) ∨ (¬ first ∧ 48 ≤ c ∧ c ≤ 57)
def nb (c : Int) (first : Bool) : Bool := decide (c = 95 ∨ (97 ≤ c ∧ c ≤ 122) ∨ (65 ≤ c ∧ c ≤ 90) ∨ (first = false ∧ 48 ≤ c ∧ c ≤ 57))

theorem nb_yes {c : Int} {first : Bool} (h : c = 95 ∨ (97 ≤ c ∧ c ≤ 122) ∨ (65 ≤ c ∧ c ≤ 90) ∨ (first = false ∧ 48 ≤ c ∧ c ≤ 57)) : nb c first = true := decide_eq_true h
theorem nb_no {c : Int} {first : Bool} (h : ¬ (c = 95 ∨ (97 ≤ c ∧ c ≤ 122) ∨ (65 ≤ c ∧ c ≤ 90) ∨ (first = false ∧ 48 ≤ c ∧ c ≤ 57))) : nb c first = false := decide_eq_false h

theorem nb_digit {c : Int} (h1 : 48 ≤ c) (h2 : c ≤ 57) : nb c false = true := nb_yes (.inr (.inr (.inr ⟨rfl, h1, h2⟩)))
theorem nb_digit_first {c : Int} (h1 : 48 ≤ c) (h2 : c ≤ 57) : nb c true = false := nb_no (by
  rintro (h | h | h | ⟨h, _⟩)
  · omega
  · omega
  · omega
  · cases h)

/-- every byte falls into one of these -/
theorem cases_of (c : Int) : (c = 95) ∨ (¬ c = 95 ∧ 97 ≤ c ∧ c ≤ 122) ∨ (¬ c = 95 ∧ 97 ≤ c ∧ 122 < c) ∨ (c < 97 ∧ 65 ≤ c ∧ c ≤ 90) ∨ (¬ c = 95 ∧ c < 97 ∧ 65 ≤ c ∧ 90 < c) ∨ (c < 65 ∧ 48 ≤ c ∧ c ≤ 57) ∨ (c < 65 ∧ 48 ≤ c ∧ 57 < c) ∨ (c < 65 ∧ c < 48) := by omega

theorem isName_any (c : Int) (first : Bool) (w : World) :
    Calls Try.prog 16 #[.int .u8 c, .bool first] w fun e w' => e = .returned (.bool (nb c first)) ∧ w' = w := by
  by_cases h : c = 95
  · have h' : (c == 95) = true := by simp [h]
    have H : Hid (c = 95) := h
    clear h
    go_enter Try.func16, Try.ntmps16
    go_wp2
    go_ret
    exact ⟨ret_bool (nb_yes (.inl H.out)).symm, rfl⟩
  · have h' : (c == 95) = false := by simp [h]
    rcases cases_of c with h0 | ⟨_, h1, h2⟩ | ⟨_, h1, h2⟩ | ⟨h0, h1, h2⟩ | ⟨_, h0, h1, h2⟩ | ⟨h0, h1, h2⟩ | ⟨h0, h1, h2⟩ | ⟨h0, h1⟩
    · exact absurd h0 h
    all_goals
      cases first
      all_goals
        go_enter Try.func16, Try.ntmps16
        go_wp2
        go_ret
        refine ⟨ret_bool ?_, rfl⟩
        first
          | (refine (nb_yes ?_).symm; omega)
          | (refine (nb_digit ?_ ?_).symm <;> omega)
          | (refine (nb_digit_first ?_ ?_).symm <;> omega)
          | (refine (nb_no ?_).symm; simp only [Bool.true_eq_false, false_and, true_and, or_false]; omega)
          | (unfold nb; refine decide_eq_decide.2 ?_; simp only [true_and]; omega)

/-- the byte at place i, as a number -/
def gt (s : ByteArray) (i : Nat) : Int := ((s.data[i]!).toNat : Int)

theorem gt_at (s : ByteArray) (i : Nat) (h : i < s.size) : (s[i].toNat : Int) = gt s i := by
  unfold gt; rw [getElem!_pos s.data i (by simpa using h)]; rfl

/-- the first n bytes make a name -/
def named (s : ByteArray) (n : Nat) : Prop := ∀ i, i < n → nb (gt s i) (decide (i = 0)) = true

theorem named_step {s : ByteArray} {k : Nat} (h : named s k) (g : nb (gt s k) (decide (k = 0)) = true) : named s (k + 1) := by
  intro i hi
  by_cases e : i = k
  · subst e; exact g
  · exact h i (by omega)

set_option maxHeartbeats 2000000 in
theorem nameLen_any (s : ByteArray) (w : World) (hs : s.size ≤ maxLen) :
    Calls Try.prog 21 #[.string s] w fun e w' => ∃ n : Nat, e = .returned (.int .i64 n) ∧ n ≤ s.size ∧ named s n ∧ (n < s.size → nb (gt s n) (decide (n = 0)) = false) ∧ w' = w := by
  unfold maxLen at hs
  go_enter Try.func21, Try.ntmps21
  go_wp2
  go_loop [3] (fun i => ∃ k : Nat, k ≤ s.size ∧ i = .int .i64 k ∧ Hid (named s k)) (fun i => s.size - (intOf i).toNat)
  case atStart => exact ⟨0, Nat.zero_le _, rfl, fun i hi => by omega⟩
  case round =>
    obtain ⟨k, hk, rfl, HP⟩ := hrel
    by_cases hlt : k < s.size
    · have HG : Hid ((s[k].toNat : Int) = gt s k) := gt_at s k hlt
      by_cases h : (s[k].toNat : Int) = 95
      · have h' : ((s[k].toNat : Int) != 95) = false := by simpa using h
        have HN : Hid (named s (k + 1)) := named_step HP.out (by rw [← HG.out]; exact nb_yes (.inl h))
        clear h
        go_wp2
        go_round
        case rel => exact ⟨k + 1, by omega, by go_num, HN.out⟩
        case measure => simp [intOf]; omega
      · have h' : ((s[k].toNat : Int) != 95) = true := by simpa using h
        have key : (∀ v, nb (s[k].toNat : Int) (decide (k = 0)) = v → nb (gt s k) (decide (k = 0)) = v) := fun v hv => by rw [← HG.out]; exact hv
        have KEY : Hid (∀ v, nb (s[k].toNat : Int) (decide (k = 0)) = v → nb (gt s k) (decide (k = 0)) = v) := key
        clear key
        rcases cases_of (s[k].toNat : Int) with h0 | ⟨_, h1, h2⟩ | ⟨_, h1, h2⟩ | ⟨h0, h1, h2⟩ | ⟨_, h0, h1, h2⟩ | ⟨h0, h1, h2⟩ | ⟨h0, h1, h2⟩ | ⟨h0, h1⟩
        · exact absurd h0 h
        all_goals
          by_cases k0 : 0 < k
          all_goals
            go_wp2
            all_goals first
              | (exfalso; rename_i hh; revert hh; simp only [Bool.not_eq_eq_eq_not, Bool.not_false, decide_eq_true_eq]; omega)
              | (go_round
                 case rel => exact ⟨k + 1, by omega, by go_num, named_step HP.out (KEY.out _ (nb_yes (by first | omega | exact .inr (.inr (.inr ⟨decide_eq_false (by omega), h1, h2⟩)))))⟩
                 case measure => simp [intOf]; omega)
              | (go_ret
                 exact ⟨k, rfl, hk, HP.out, fun _ => KEY.out _ (nb_no (by rintro (a | a | a | ⟨a, b⟩); omega; omega; omega; first | omega | (have := of_decide_eq_false a; omega))), rfl⟩)
    · go_wp2
      go_ret
      exact ⟨s.size, rfl, Nat.le_refl _, fun i hi => HP.out i (by omega), fun h => by omega, rfl⟩

theorem zzNameLen_any (s : ByteArray) (w : World) (hs : s.size ≤ maxLen) :
    Calls Try.prog 15 #[.string s] w fun e w' => ∃ n : Nat, e = .returned (.int .i64 n) ∧ n ≤ s.size ∧ named s n ∧ (n < s.size → nb (gt s n) (decide (n = 0)) = false) ∧ w' = w := by
  go_enter Try.func15, Try.ntmps15
  go_wp2_with fail
  refine (nameLen_any s _ hs).mono ?_
  rintro e w1 ⟨n, rfl, h1, h2, h3, rfl⟩
  have H2 : Hid (named s n) := h2
  have H3 : Hid (n < s.size → nb (gt s n) (decide (n = 0)) = false) := h3
  clear h2 h3
  go_wp2_with fail
  go_ret
  exact ⟨n, rfl, h1, H2.out, H3.out, rfl⟩

end Go.Proofs.Qxb6602053a
