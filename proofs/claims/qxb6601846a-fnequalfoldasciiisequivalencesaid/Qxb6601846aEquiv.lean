/-
  FnEqualFoldASCIIIsEquivalence (8): the walk. zzBytes (21): do the lengths sum to at most 1048576?
-/
import Derived.Test.Qxb6601846aFold
namespace Go.Proofs.Qxb6601846a
open Go.RowKit
set_option linter.unusedVariables false

theorem zz21_yes (a b c : ByteArray) (w : World) (h : a.size + b.size + c.size ≤ 1048576) :
    Calls Try.prog 21 #[.string a, .string b, .string c] w fun e w' => e = .returned (.bool true) ∧ w' = w := by
  go_enter Try.func21, Try.ntmps21
  go_wp2
  go_ret
  exact ⟨rfl, rfl⟩

theorem zz21_no (a b c : ByteArray) (w : World) (ha : a.size ≤ maxLen) (hb : b.size ≤ maxLen) (hc : c.size ≤ maxLen) (h : ¬ a.size + b.size + c.size ≤ 1048576) :
    Calls Try.prog 21 #[.string a, .string b, .string c] w fun e w' => e = .returned (.bool false) ∧ w' = w := by
  unfold maxLen at ha hb hc
  by_cases h1 : a.size ≤ 1048576
  · by_cases h2 : b.size ≤ 1048576
    · by_cases h3 : a.size + b.size ≤ 1048576
      · by_cases h4 : c.size ≤ 1048576
        · go_enter Try.func21, Try.ntmps21
          go_wp2
          go_ret
          exact ⟨rfl, rfl⟩
        · go_enter Try.func21, Try.ntmps21
          go_wp2
          go_ret
          exact ⟨rfl, rfl⟩
      · go_enter Try.func21, Try.ntmps21
        go_wp2
        go_ret
        exact ⟨rfl, rfl⟩
    · go_enter Try.func21, Try.ntmps21
      go_wp2
      go_ret
      exact ⟨rfl, rfl⟩
  · go_enter Try.func21, Try.ntmps21
    go_wp2
    go_ret
    exact ⟨rfl, rfl⟩

theorem eqf_refl (a : ByteArray) : eqf a a = true := by unfold eqf; simp
theorem eqf_symm (a b : ByteArray) : eqf b a = eqf a b := by
  unfold eqf; exact decide_eq_decide.2 ⟨Eq.symm, Eq.symm⟩
theorem eqf_trans {a b c : ByteArray} (h : eqf a b = true) (g : eqf b c = true) : eqf a c = true := by
  unfold eqf at *
  rw [decide_eq_true_iff] at *
  exact h.trans g

/-- the contract at a known answer -/
theorem zzEqualFold_known (a b : ByteArray) (v : Bool) (h : eqf a b = v) (w : World) (ha : a.size ≤ maxLen) (hb : b.size ≤ maxLen) :
    Calls Try.prog 20 #[.string a, .string b] w fun e w' => e = .returned (.bool v) ∧ Drawn w w' := by
  subst h; exact zzEqualFold_any a b w ha hb

set_option maxHeartbeats 1000000 in
theorem equiv_walk (a b c : ByteArray) (w : World) (ha : a.size ≤ maxLen) (hb : b.size ≤ maxLen) (hc : c.size ≤ maxLen) :
    Calls Try.prog 8 #[.string a, .string b, .string c] w fun e w' => e = .returned (.bool true) ∧ Drawn w w' := by
  by_cases hfit : a.size + b.size + c.size ≤ 1048576
  · by_cases hbig : 262144 < a.size ∨ 262144 < b.size ∨ 262144 < c.size
    · have hz := fun w => zz21_yes a b c w hfit
      by_cases h1 : 262144 < a.size
      · go_enter Try.func8, Try.ntmps8
        go_wp2_with (go_at_call 21; refine (hz _).mono ?_; rintro e w' ⟨rfl, rfl⟩)
        go_ret
        exact ⟨rfl, Drawn.refl _⟩
      · by_cases h2 : 262144 < b.size
        · go_enter Try.func8, Try.ntmps8
          go_wp2_with (go_at_call 21; refine (hz _).mono ?_; rintro e w' ⟨rfl, rfl⟩)
          go_ret
          exact ⟨rfl, Drawn.refl _⟩
        · have h3 : 262144 < c.size := by omega
          go_enter Try.func8, Try.ntmps8
          go_wp2_with (go_at_call 21; refine (hz _).mono ?_; rintro e w' ⟨rfl, rfl⟩)
          go_ret
          exact ⟨rfl, Drawn.refl _⟩
    · have g1 : ¬ 262144 < a.size := by omega
      have g2 : ¬ 262144 < b.size := by omega
      have g3 : ¬ 262144 < c.size := by omega
      clear hbig
      have hz := fun w => zz21_yes a b c w hfit
      go_enter Try.func8, Try.ntmps8
      go_wp2_with (go_at_call 21; refine (hz _).mono ?_; rintro e w' ⟨rfl, rfl⟩)
      refine (zzEqualFold_known a a true (eqf_refl a) _ ha ha).mono ?_
      rintro e w1 ⟨rfl, d1⟩
      go_wp2_with fail
      cases hab : eqf a b
      · refine (zzEqualFold_known a b false hab _ ha hb).mono ?_
        have hba : eqf b a = false := by rw [eqf_symm]; exact hab
        clear hab
        rintro e w2 ⟨rfl, d2⟩
        go_wp2_with fail
        refine (zzEqualFold_known b a false hba _ hb ha).mono ?_
        rintro e w3 ⟨rfl, d3⟩
        go_wp2_with fail
        go_ret
        exact ⟨rfl, (d1.trans d2).trans d3⟩
      · refine (zzEqualFold_known a b true hab _ ha hb).mono ?_
        have hba : eqf b a = true := by rw [eqf_symm]; exact hab
        have HAB : Hid (eqf a b = true) := hab
        clear hab
        rintro e w2 ⟨rfl, d2⟩
        go_wp2_with fail
        refine (zzEqualFold_known b a true hba _ hb ha).mono ?_
        rintro e w3 ⟨rfl, d3⟩
        go_wp2_with fail
        cases hbc : eqf b c
        · refine (zzEqualFold_known b c false hbc _ hb hc).mono ?_
          clear hbc
          rintro e w4 ⟨rfl, d4⟩
          go_wp2_with fail
          go_ret
          exact ⟨rfl, ((d1.trans d2).trans d3).trans d4⟩
        · refine (zzEqualFold_known b c true hbc _ hb hc).mono ?_
          have hac : eqf a c = true := eqf_trans HAB.out hbc
          clear hbc
          rintro e w4 ⟨rfl, d4⟩
          go_wp2_with fail
          refine (zzEqualFold_known a c true hac _ ha hc).mono ?_
          rintro e w5 ⟨rfl, d5⟩
          go_wp2_with fail
          go_ret
          exact ⟨rfl, (((d1.trans d2).trans d3).trans d4).trans d5⟩
  · go_enter Try.func8, Try.ntmps8
    go_wp2_with (go_at_call 21; refine (zz21_no a b c _ ha hb hc hfit).mono ?_; rintro e w' ⟨rfl, rfl⟩)
    go_ret
    exact ⟨rfl, Drawn.refl _⟩

end Go.Proofs.Qxb6601846a
