/-
  FnFromDomainMatchesLabelModel (3): the walk.
-/
import Derived.Test.Qxb6601846aModelB
namespace Go.Proofs.Qxb6601846a
open Go.RowKit
set_option linter.unusedVariables false

theorem zz9_yes (a b : ByteArray) (w : World) (h : a.size + b.size ≤ 1048576) :
    Calls Try.prog 9 #[.string a, .string b] w fun e w' => e = .returned (.bool true) ∧ w' = w := by
  go_enter Try.func9, Try.ntmps9
  go_wp2
  go_ret
  exact ⟨rfl, rfl⟩

theorem zz9_no (a b : ByteArray) (w : World) (ha : a.size ≤ maxLen) (hb : b.size ≤ maxLen) (h : ¬ a.size + b.size ≤ 1048576) :
    Calls Try.prog 9 #[.string a, .string b] w fun e w' => e = .returned (.bool false) ∧ w' = w := by
  unfold maxLen at ha hb
  by_cases h1 : a.size ≤ 1048576
  · by_cases h2 : b.size ≤ 1048576
    · go_enter Try.func9, Try.ntmps9
      go_wp2
      go_ret
      exact ⟨rfl, rfl⟩
    · go_enter Try.func9, Try.ntmps9
      go_wp2
      go_ret
      exact ⟨rfl, rfl⟩
  · go_enter Try.func9, Try.ntmps9
    go_wp2
    go_ret
    exact ⟨rfl, rfl⟩

theorem grown_trans {a b c : World} (h : Grown a b) (g : Grown b c) : Grown a c :=
  ⟨World.keptBut_trans h.1 g.1, fun x => (g.2.1 x).trans (h.2.1 x), Nat.le_trans h.2.2 g.2.2⟩

set_option maxHeartbeats 1000000 in
theorem label_walk (a b : ByteArray) (w : World) (ha : a.size ≤ maxLen) (hb : b.size ≤ maxLen) :
    Calls Try.prog 3 #[.string a, .string b] w fun e w' => e = .returned (.bool true) ∧ Grown w w' := by
  by_cases hfit : a.size + b.size ≤ 1048576
  · have hz := fun w => zz9_yes a b w hfit
    by_cases h1 : 524288 < a.size
    · go_enter Try.func3, Try.ntmps3
      go_wp2_with (go_at_call 9; refine (hz _).mono ?_; rintro e w' ⟨rfl, rfl⟩)
      go_ret
      exact ⟨rfl, Grown.refl _⟩
    · by_cases h2 : 524288 < b.size
      · go_enter Try.func3, Try.ntmps3
        go_wp2_with (go_at_call 9; refine (hz _).mono ?_; rintro e w' ⟨rfl, rfl⟩)
        go_ret
        exact ⟨rfl, Grown.refl _⟩
      · have k1 := fun w => fromDomain_any a b (by omega) hb w
        have k2 := fun w => fromModel_any a b (by omega) (by omega) w
        generalize fdNum a b = x at k1 k2
        generalize fdOk a b = y at k1 k2
        go_enter Try.func3, Try.ntmps3
        go_wp2_with (go_at_call 9; refine (hz _).mono ?_; rintro e w' ⟨rfl, rfl⟩)
        refine (k1 _).mono ?_
        rintro e w1 ⟨rfl, g1⟩
        clear k1 hz
        go_wp2_with fail
        refine (k2 _).mono ?_
        rintro e w2 ⟨rfl, g2⟩
        clear k2
        go_wp2_with fail
        go_ret
        exact ⟨ret_bool (by simp), grown_trans g1 g2⟩
  · go_enter Try.func3, Try.ntmps3
    go_wp2_with (go_at_call 9; refine (zz9_no a b _ ha hb hfit).mono ?_; rintro e w' ⟨rfl, rfl⟩)
    go_ret
    exact ⟨rfl, Grown.refl _⟩

end Go.Proofs.Qxb6601846a
