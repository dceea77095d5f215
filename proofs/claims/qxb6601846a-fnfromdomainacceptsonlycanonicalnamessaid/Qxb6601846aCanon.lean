/-
  FnFromDomainAcceptsOnlyCanonicalNames (5): the walk. zzBytes (14).
-/
import Derived.Test.Qxb6601846aTrip
import Derived.Test.Qxb6601846aSame
namespace Go.Proofs.Qxb6601846a
open Go.RowKit
set_option linter.unusedVariables false

theorem zz14_yes (a b : ByteArray) (w : World) (h : a.size + b.size ≤ 1048576) :
    Calls Try.prog 14 #[.string a, .string b] w fun e w' => e = .returned (.bool true) ∧ w' = w := by
  go_enter Try.func14, Try.ntmps14
  go_wp2
  go_ret
  exact ⟨rfl, rfl⟩

theorem zz14_no (a b : ByteArray) (w : World) (ha : a.size ≤ maxLen) (hb : b.size ≤ maxLen) (h : ¬ a.size + b.size ≤ 1048576) :
    Calls Try.prog 14 #[.string a, .string b] w fun e w' => e = .returned (.bool false) ∧ w' = w := by
  unfold maxLen at ha hb
  by_cases h1 : a.size ≤ 1048576
  · by_cases h2 : b.size ≤ 1048576
    · go_enter Try.func14, Try.ntmps14
      go_wp2
      go_ret
      exact ⟨rfl, rfl⟩
    · go_enter Try.func14, Try.ntmps14
      go_wp2
      go_ret
      exact ⟨rfl, rfl⟩
  · go_enter Try.func14, Try.ntmps14
    go_wp2
    go_ret
    exact ⟨rfl, rfl⟩

theorem refused_empty {name s : ByteArray} (h : fdOk name s = false) : fdNum name s = ⟨#[]⟩ := by
  unfold fdOk at h
  unfold fdNum
  cases hc : cutBody (trimDot name) (trimDot s) with
  | none => rfl
  | some B =>
    rw [hc] at h
    unfold ansNum
    simp only [show okB B = false from h, Bool.false_eq_true, if_false]

theorem trim15_k (s t : ByteArray) (h : trimDot s = t) (w : World) (hs : s.size ≤ maxLen) :
    Calls Try.prog 15 #[.string s] w fun e w' => e = .returned (.string t) ∧ w' = w := by
  subst h; exact trimOne_any s w hs

theorem Drawn.kpt {w w' : World} (h : Drawn w w') : Kpt w w' := h.grown.1

set_option maxHeartbeats 4000000 in
theorem canon_walk (name s : ByteArray) (w : World) (hn : name.size ≤ maxLen) (hs : s.size ≤ maxLen) :
    Calls Try.prog 5 #[.string name, .string s] w fun e w' => e = .returned (.bool true) ∧ Kpt w w' := by
  by_cases hfit : name.size + s.size ≤ 1048576
  · have hz := fun w => zz14_yes name s w hfit
    by_cases h1 : 524288 < name.size
    · go_enter Try.func5, Try.ntmps5
      go_wp2_with (go_at_call 14; refine (hz _).mono ?_; rintro e w' ⟨rfl, rfl⟩)
      go_ret
      exact ⟨rfl, Kpt.refl _⟩
    · by_cases h2 : 524288 < s.size
      · go_enter Try.func5, Try.ntmps5
        go_wp2_with (go_at_call 14; refine (hz _).mono ?_; rintro e w' ⟨rfl, rfl⟩)
        go_ret
        exact ⟨rfl, Kpt.refl _⟩
      · cases hok : fdOk name s
        · have c1 := fun w => fromDomain_known name s ⟨#[]⟩ false (refused_empty hok) hok (by omega) hs w
          clear hok
          go_enter Try.func5, Try.ntmps5
          go_wp2_with (go_at_call 14; refine (hz _).mono ?_; rintro e w' ⟨rfl, rfl⟩)
          refine (c1 _).mono ?_
          rintro e w1 ⟨rfl, g1⟩
          clear c1 hz
          go_wp2_with fail
          go_ret
          exact ⟨rfl, g1.1⟩
        · obtain ⟨p1, p2, p3, p4, p5⟩ := canon name s hok
          have c1 := fun w => fromDomain_known name s _ true rfl hok (by omega) hs w
          clear hok
          generalize fdNum name s = x at p1 p2 p3 p4 p5 c1
          have hd := dom_le x s
          have c2 := fun w => domain_any x s w (by omega) (by omega)
          obtain ⟨T, hT⟩ : ∃ T, trimDot (domain x s) = T := ⟨_, rfl⟩
          obtain ⟨M, hM⟩ : ∃ M, trimDot name = M := ⟨_, rfl⟩
          have c3 := fun w => trim15_k (domain x s) T hT w (by unfold maxLen; omega)
          have c4 := fun w => trim15_k name M hM w hn
          have hMz : M.size ≤ 1048576 := by rw [← hM]; have := trimDot_le name; omega
          rw [hT, hM] at p4 p5
          clear hT hM hd
          have P3 : Hid (∀ i, i < x.size → 48 ≤ gt x i ∧ gt x i ≤ 57) := p3
          have P5 : Hid (∀ i, i < M.size → low (gt T i) = low (gt M i)) := p5
          have q4 : T.size ≤ M.size := by omega
          have q5 : M.size ≤ T.size := by omega
          have q6 : ((T.size : Int) != (M.size : Int)) = false := by simp; omega
          clear p3 p4 p5
          go_enter Try.func5, Try.ntmps5
          go_wp2_with (go_at_call 14; refine (hz _).mono ?_; rintro e w' ⟨rfl, rfl⟩)
          refine (c1 _).mono ?_
          rintro e w1 ⟨rfl, g1⟩
          clear c1 hz
          go_wp2_with fail
          go_loop [7] (fun i => ∃ k : Nat, k ≤ x.size ∧ i = .int .i64 k) (fun i => x.size - (intOf i).toNat)
          case atStart => exact ⟨0, Nat.zero_le _, rfl⟩
          case round =>
            obtain ⟨k, hk, rfl⟩ := hrel
            by_cases hlt : k < x.size
            · obtain ⟨h48, h57⟩ : (48 : Int) ≤ (x[k].toNat : Int) ∧ (x[k].toNat : Int) ≤ 57 := by rw [gt_at x k hlt]; exact P3.out k hlt
              go_wp2_with fail
              go_round
              case rel => exact ⟨k + 1, by omega, by go_num⟩
              case measure => simp [intOf]; omega
            · go_wp2_with fail
              refine (c2 _).mono ?_
              rintro e w2 ⟨rfl, b2⟩
              have K2 : Hid (Kpt w' w2) := Kpt.trans g1.1 (b2.frame _) g1.2.2
              clear b2 g1
              go_wp2_with fail
              refine (c3 _).mono ?_
              rintro e w3 ⟨rfl, rfl⟩
              go_wp2_with fail
              refine (c4 _).mono ?_
              rintro e w4 ⟨rfl, rfl⟩
              clear c2 c3 c4
              go_wp2_with fail
              go_loopw [10] (fun i wr => ∃ k : Nat, k ≤ M.size ∧ i = .int .i64 k ∧ Hid (Drawn w4 wr)) (fun i _ => M.size - (intOf i).toNat)
              case atStart => exact ⟨0, Nat.zero_le _, rfl, Drawn.refl _⟩
              case round =>
                obtain ⟨j, hj, rfl, HD⟩ := hrel
                by_cases hlt2 : j < M.size
                · have hlt3 : j < T.size := by omega
                  have hsf : sf T[j] M[j] = true := by
                    unfold sf lowB
                    rw [gt_at T j hlt3, gt_at M j hlt2]
                    exact decide_eq_true (P5.out j hlt2)
                  go_wp2_with fail
                  go_quiet ((go_at_call 17; exact Calls.quiet_of_same (sameFold_any _ _ _)))
                  go_wp2_with fail
                  go_roundw
                  case rel => exact ⟨j + 1, by omega, by go_num, HD.out.trans (Drawn.one _ _)⟩
                  case measure => simp [intOf]; omega
                · go_wp2_with fail
                  go_ret
                  exact ⟨rfl, World.keptBut_trans K2.out HD.out.kpt⟩
  · go_enter Try.func5, Try.ntmps5
    go_wp2_with (go_at_call 14; refine (zz14_no name s _ hn hs hfit).mono ?_; rintro e w' ⟨rfl, rfl⟩)
    go_ret
    exact ⟨rfl, Kpt.refl _⟩

end Go.Proofs.Qxb6601846a
