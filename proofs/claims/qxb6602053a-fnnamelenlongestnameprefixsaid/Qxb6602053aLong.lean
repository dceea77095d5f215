/-
  FnNameLenLongestNamePrefix (5): the walk. zzBytes (14).
-/
import Derived.Test.Qxb6602053aName
namespace Go.Proofs.Qxb6602053a
open Go.RowKit
set_option linter.unusedVariables false

theorem zz14_yes (a : ByteArray) (w : World) (h : a.size ≤ 1048576) :
    Calls Try.prog 14 #[.string a] w fun e w' => e = .returned (.bool true) ∧ w' = w := by
  go_enter Try.func14, Try.ntmps14
  go_wp2
  go_ret
  exact ⟨rfl, rfl⟩

theorem zz14_no (a : ByteArray) (w : World) (h : ¬ a.size ≤ 1048576) :
    Calls Try.prog 14 #[.string a] w fun e w' => e = .returned (.bool false) ∧ w' = w := by
  go_enter Try.func14, Try.ntmps14
  go_wp2
  go_ret
  exact ⟨rfl, rfl⟩

theorem isName_at (s : ByteArray) (k : Nat) (v : Bool) (hk : k < s.size) (h : nb (gt s k) (decide (k = 0)) = v) (w : World) :
    Calls Try.prog 16 #[.int .u8 (s[k].toNat : Int), .bool ((k : Int) == 0)] w fun e w' => e = .returned (.bool v) ∧ w' = w := by
  have e : ((k : Int) == 0) = decide (k = 0) := by
    rw [Bool.eq_iff_iff]; simp
  rw [e, gt_at s k hk, ← h]
  exact isName_any _ _ w

set_option maxHeartbeats 1000000 in
theorem long_walk (s : ByteArray) (w : World) (hs : s.size ≤ maxLen) :
    Calls Try.prog 5 #[.string s] w fun e w' => e = .returned (.bool true) ∧ w' = w := by
  by_cases hfit : s.size ≤ 1048576
  · have hz := fun w => zz14_yes s w hfit
    go_enter Try.func5, Try.ntmps5
    go_wp2_with (go_at_call 14; refine (hz _).mono ?_; rintro e w' ⟨rfl, rfl⟩)
    refine (zzNameLen_any s _ hs).mono ?_
    rintro e w1 ⟨n, rfl, h1, h2, h3, rfl⟩
    have H2 : Hid (named s n) := h2
    have H3 : Hid (n < s.size → nb (gt s n) (decide (n = 0)) = false) := h3
    clear h2 h3 hz
    have hd0 : decide (s.size < n) = false := decide_eq_false (by omega)
    have hd1 : decide ((n : Int) < 0) = false := decide_eq_false (by omega)
    go_wp2_with fail
    go_loopw [4] (fun i wr => ∃ k : Nat, k ≤ n ∧ i = .int .i64 k ∧ Hid (wr = w1)) (fun i _ => n - (intOf i).toNat)
    case atStart => exact ⟨0, Nat.zero_le _, rfl, rfl⟩
    case round =>
      obtain ⟨k, hk, rfl, HW⟩ := hrel
      by_cases hlt : k < n
      · have hks : k < s.size := by omega
        have c1 := fun w => isName_at s k true hks (H2.out k hlt) w
        go_wp2_with fail
        refine (c1 _).mono ?_
        rintro e w2 ⟨rfl, hw2⟩
        have HW2 : Hid (w2 = w1) := hw2.trans HW.out
        clear c1 hw2
        go_wp2_with fail
        go_roundw
        case rel => exact ⟨k + 1, by omega, by go_num, HW2.out⟩
        case measure => simp [intOf]; omega
      · by_cases hns : n < s.size
        · have c1 := fun w => isName_at s n false hns (H3.out hns) w
          go_wp2_with fail
          refine (c1 _).mono ?_
          rintro e w2 ⟨rfl, hw2⟩
          have HW2 : Hid (w2 = w1) := hw2.trans HW.out
          clear c1 hw2
          go_wp2_with fail
          go_ret
          exact ⟨rfl, HW2.out⟩
        · have hd : decide ((n : Int) < (s.size : Int)) = false := decide_eq_false (by omega)
          go_wp2_with fail
          go_ret
          exact ⟨rfl, HW.out⟩
  · go_enter Try.func5, Try.ntmps5
    go_wp2_with (go_at_call 14; refine (zz14_no s _ hfit).mono ?_; rintro e w' ⟨rfl, rfl⟩)
    go_ret
    exact ⟨rfl, rfl⟩

end Go.Proofs.Qxb6602053a
