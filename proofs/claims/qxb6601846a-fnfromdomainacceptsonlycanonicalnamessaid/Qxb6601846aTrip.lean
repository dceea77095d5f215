/-
  FnDomainThenFromDomainRoundTrip (6): the walk. zzBytes (18).
-/
import Derived.Test.Qxb6601846aRound
import Derived.Test.Qxb6601846aFrom
namespace Go.Proofs.Qxb6601846a
open Go.RowKit
set_option linter.unusedVariables false

/-- nothing that was there has turned -/
def Kpt (w w' : World) : Prop := w.keptBut w' (fun _ => False)
theorem Kpt.refl (w : World) : Kpt w w := World.keptBut_refl _ _
theorem Kpt.trans {a b c : World} (h : Kpt a b) (g : Kpt b c) (hs : a.heap.size ≤ b.heap.size) : Kpt a c := World.keptBut_trans h g
theorem Kpt.frame {W w' : World} (h : Kpt W w') (may : MemPlace → Prop) : W.keptBut w' may := World.keptBut_mono (fun _ f => f.elim) h

theorem zz18_yes (a b : ByteArray) (w : World) (h : a.size + b.size ≤ 1048576) :
    Calls Try.prog 18 #[.string a, .string b] w fun e w' => e = .returned (.bool true) ∧ w' = w := by
  go_enter Try.func18, Try.ntmps18
  go_wp2
  go_ret
  exact ⟨rfl, rfl⟩

theorem zz18_no (a b : ByteArray) (w : World) (ha : a.size ≤ maxLen) (hb : b.size ≤ maxLen) (h : ¬ a.size + b.size ≤ 1048576) :
    Calls Try.prog 18 #[.string a, .string b] w fun e w' => e = .returned (.bool false) ∧ w' = w := by
  unfold maxLen at ha hb
  by_cases h1 : a.size ≤ 1048576
  · by_cases h2 : b.size ≤ 1048576
    · go_enter Try.func18, Try.ntmps18
      go_wp2
      go_ret
      exact ⟨rfl, rfl⟩
    · go_enter Try.func18, Try.ntmps18
      go_wp2
      go_ret
      exact ⟨rfl, rfl⟩
  · go_enter Try.func18, Try.ntmps18
    go_wp2
    go_ret
    exact ⟨rfl, rfl⟩

theorem dom_le (n s : ByteArray) : (domain n s).size ≤ 2 * n.size + s.size := by
  by_cases h : lone s
  · rw [dom_size_lone h]; omega
  · rw [dom_size h]; omega

theorem fromDomain_known (name s x : ByteArray) (y : Bool) (hx : fdNum name s = x) (hy : fdOk name s = y) (hn : name.size ≤ 2097152) (hs : s.size ≤ maxLen) (w : World) :
    Calls Try.prog 10 #[.string name, .string s] w fun e w' => e = .returned (.tuple #[.string x, .bool y]) ∧ Grown w w' := by
  subst hx; subst hy; exact fromDomain_any name s hn hs w

theorem digit_step {n : ByteArray} {k : Nat} (h : ∀ i, i < k → 48 ≤ gt n i ∧ gt n i ≤ 57) (g : 48 ≤ gt n k ∧ gt n k ≤ 57) : ∀ i, i < k + 1 → 48 ≤ gt n i ∧ gt n i ≤ 57 := by
  intro i hi
  by_cases e : i = k
  · subst e; exact g
  · exact h i (by omega)

set_option maxHeartbeats 2000000 in
theorem trip_walk (n s : ByteArray) (w : World) (hn : n.size ≤ maxLen) (hs : s.size ≤ maxLen) :
    Calls Try.prog 6 #[.string n, .string s] w fun e w' => e = .returned (.bool true) ∧ Kpt w w' := by
  by_cases hfit : n.size + s.size ≤ 1048576
  · have hz := fun w => zz18_yes n s w hfit
    by_cases h1 : 524288 < s.size
    · go_enter Try.func6, Try.ntmps6
      go_wp2_with (go_at_call 18; refine (hz _).mono ?_; rintro e w' ⟨rfl, rfl⟩)
      go_ret
      exact ⟨rfl, Kpt.refl _⟩
    · by_cases h2 : n.size < 1
      · go_enter Try.func6, Try.ntmps6
        go_wp2_with (go_at_call 18; refine (hz _).mono ?_; rintro e w' ⟨rfl, rfl⟩)
        go_ret
        exact ⟨rfl, Kpt.refl _⟩
      · by_cases h3 : 15 < n.size
        · go_enter Try.func6, Try.ntmps6
          go_wp2_with (go_at_call 18; refine (hz _).mono ?_; rintro e w' ⟨rfl, rfl⟩)
          go_ret
          exact ⟨rfl, Kpt.refl _⟩
        · go_enter Try.func6, Try.ntmps6
          go_wp2_with (go_at_call 18; refine (hz _).mono ?_; rintro e w' ⟨rfl, rfl⟩)
          clear hz
          go_loop [5] (fun i => ∃ k : Nat, k ≤ n.size ∧ i = .int .i64 k ∧ Hid (∀ i, i < k → 48 ≤ gt n i ∧ gt n i ≤ 57)) (fun i => n.size - (intOf i).toNat)
          case atStart => exact ⟨0, Nat.zero_le _, rfl, fun i hi => by omega⟩
          case round =>
            obtain ⟨k, hk, rfl, HP⟩ := hrel
            by_cases hlt : k < n.size
            · have HG : Hid ((n[k].toNat : Int) = gt n k) := gt_at n k hlt
              by_cases h48 : (48 : Int) ≤ (n[k].toNat : Int)
              · by_cases h57 : (n[k].toNat : Int) ≤ 57
                · have HN : Hid (∀ i, i < k + 1 → 48 ≤ gt n i ∧ gt n i ≤ 57) := digit_step HP.out (by rw [← HG.out]; exact ⟨h48, h57⟩)
                  go_wp2_with fail
                  go_round
                  case rel => exact ⟨k + 1, by omega, by go_num, HN.out⟩
                  case measure => simp [intOf]; omega
                · go_wp2_with fail
                  go_ret
                  exact ⟨rfl, Kpt.refl _⟩
              · go_wp2_with fail
                go_ret
                exact ⟨rfl, Kpt.refl _⟩
            · obtain ⟨r1, r2⟩ := round_trip n s (by omega) (by omega) (fun i hi => HP.out i (by omega))
              have hd := dom_le n s
              have c1 := fun w => domain_any n s w (by omega) (by omega)
              have c2 := fun w => fromDomain_known (domain n s) s n true r2 r1 (by omega) hs w
              clear r1 r2 hd HP
              go_wp2_with fail
              refine (c1 _).mono ?_
              rintro e w1 ⟨rfl, b1⟩
              go_wp2_with fail
              refine (c2 _).mono ?_
              rintro e w2 ⟨rfl, g2⟩
              clear c1 c2
              go_wp2_with fail
              go_ret
              exact ⟨ret_bool (by simp), Kpt.trans (b1.frame _) g2.1 b1.size⟩
  · go_enter Try.func6, Try.ntmps6
    go_wp2_with (go_at_call 18; refine (zz18_no n s _ hn hs hfit).mono ?_; rintro e w' ⟨rfl, rfl⟩)
    go_ret
    exact ⟨rfl, Kpt.refl _⟩

end Go.Proofs.Qxb6601846a
