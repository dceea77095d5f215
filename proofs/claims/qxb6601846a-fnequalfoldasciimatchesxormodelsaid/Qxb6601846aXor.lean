/-
  FnEqualFoldASCIIMatchesXorModel (7): the walk.
-/
import Derived.Test.Qxb6601846aSame
namespace Go.Proofs.Qxb6601846a
open Go.RowKit
set_option linter.unusedVariables false

theorem zz19_yes (a b : ByteArray) (w : World) (h : a.size + b.size ≤ 1048576) :
    Calls Try.prog 19 #[.string a, .string b] w fun e w' => e = .returned (.bool true) ∧ w' = w := by
  go_enter Try.func19, Try.ntmps19
  go_wp2
  go_ret
  exact ⟨rfl, rfl⟩

theorem zz19_no (a b : ByteArray) (w : World) (ha : a.size ≤ maxLen) (hb : b.size ≤ maxLen) (h : ¬ a.size + b.size ≤ 1048576) :
    Calls Try.prog 19 #[.string a, .string b] w fun e w' => e = .returned (.bool false) ∧ w' = w := by
  unfold maxLen at ha hb
  by_cases h1 : a.size ≤ 1048576
  · by_cases h2 : b.size ≤ 1048576
    · go_enter Try.func19, Try.ntmps19
      go_wp2
      go_ret
      exact ⟨rfl, rfl⟩
    · go_enter Try.func19, Try.ntmps19
      go_wp2
      go_ret
      exact ⟨rfl, rfl⟩
  · go_enter Try.func19, Try.ntmps19
    go_wp2
    go_ret
    exact ⟨rfl, rfl⟩

/-- the contract at a known answer -/
theorem zzFold_known (a b : ByteArray) (v : Bool) (h : eqf a b = v) (w : World) (ha : a.size ≤ maxLen) (hb : b.size ≤ maxLen) :
    Calls Try.prog 20 #[.string a, .string b] w fun e w' => e = .returned (.bool v) ∧ Drawn w w' := by
  subst h; exact zzEqualFold_any a b w ha hb

theorem sf_true {x y : UInt8} (h : sf x y = true) : lowB x = lowB y := of_decide_eq_true h
theorem sf_false {x y : UInt8} (h : sf x y = false) : ¬ lowB x = lowB y := of_decide_eq_false h

set_option maxHeartbeats 1000000 in
theorem xor_walk (a b : ByteArray) (w : World) (ha : a.size ≤ maxLen) (hb : b.size ≤ maxLen) :
    Calls Try.prog 7 #[.string a, .string b] w fun e w' => e = .returned (.bool true) ∧ Drawn w w' := by
  by_cases hfit : a.size + b.size ≤ 1048576
  · have hz := fun w => zz19_yes a b w hfit
    by_cases h1 : 524288 < a.size
    · go_enter Try.func7, Try.ntmps7
      go_wp2_with (go_at_call 19; refine (hz _).mono ?_; rintro e w' ⟨rfl, rfl⟩)
      go_ret
      exact ⟨rfl, Drawn.refl _⟩
    · by_cases h2 : 524288 < b.size
      · go_enter Try.func7, Try.ntmps7
        go_wp2_with (go_at_call 19; refine (hz _).mono ?_; rintro e w' ⟨rfl, rfl⟩)
        go_ret
        exact ⟨rfl, Drawn.refl _⟩
      · by_cases hs : a.size = b.size
        · have hs' : ((a.size : Int) == (b.size : Int)) = true := by simp [hs]
          have HS : Hid (a.size = b.size) := hs
          clear hs
          go_enter Try.func7, Try.ntmps7
          go_wp2_with (go_at_call 19; refine (hz _).mono ?_; rintro e w' ⟨rfl, rfl⟩)
          obtain ⟨v, hv⟩ : ∃ v, eqf a b = v := ⟨_, rfl⟩
          refine (zzFold_known a b v hv _ ha hb).mono ?_
          have HV : Hid (eqf a b = v) := hv
          clear hv
          rintro e w1 ⟨rfl, d1⟩
          go_wp2_with fail
          go_loopw [6, 7] (fun t i wr => ∃ k : Nat, k ≤ a.size ∧ t = .bool true ∧ i = .int .i64 k ∧ Hid (Drawn w1 wr) ∧ Hid ((a.data.toList.take k).map lowB = (b.data.toList.take k).map lowB)) (fun _ i _ => a.size - (intOf i).toNat)
          case atStart => exact ⟨0, Nat.zero_le _, rfl, rfl, Drawn.refl w1, rfl⟩
          case round =>
            obtain ⟨k, hk, rfl, rfl, HD, HP⟩ := hrel
            by_cases hlt : k < a.size
            · have hlb : k < b.size := by rw [← HS.out]; exact hlt
              go_wp2
              go_quiet ((go_at_call 17; exact Calls.quiet_of_same (sameFold_any _ _ _)))
              cases hc : sf a[k] b[k]
              · have HC : Hid (sf a[k] b[k] = false) := hc
                go_wp2
                go_ret
                exact ⟨ret_bool (by rw [← HV.out, eqf_at k hlt hlb (sf_false HC.out)]; rfl), d1.trans (HD.out.trans (Drawn.one _ _))⟩
              · have HC : Hid (sf a[k] b[k] = true) := hc
                go_wp2
                go_roundw
                case rel => exact ⟨k + 1, by omega, rfl, by go_num, HD.out.trans (Drawn.one _ _), snoc_eq k hlt hlb HP.out (sf_true HC.out)⟩
                case measure => simp [intOf]; omega
            · go_wp2
              go_ret
              exact ⟨ret_bool (by rw [← HV.out]; exact eqf_all HS.out k hlt HP.out), d1.trans HD.out⟩
        · have hs' : ((a.size : Int) == (b.size : Int)) = false := by simp; omega
          have hv := eqf_size hs
          clear hs
          go_enter Try.func7, Try.ntmps7
          go_wp2_with (go_at_call 19; refine (hz _).mono ?_; rintro e w' ⟨rfl, rfl⟩)
          refine (zzFold_known a b false hv _ ha hb).mono ?_
          clear hv
          rintro e w1 ⟨rfl, d1⟩
          go_wp2_with fail
          go_ret
          exact ⟨rfl, d1⟩
  · go_enter Try.func7, Try.ntmps7
    go_wp2_with (go_at_call 19; refine (zz19_no a b _ ha hb hfit).mono ?_; rintro e w' ⟨rfl, rfl⟩)
    go_ret
    exact ⟨rfl, Drawn.refl _⟩

end Go.Proofs.Qxb6601846a
