/-
  isWordBlank (19), singleQuotedEnd (22), doubleQuotedEnd (23), wordEnd (20): each by a contract.
-/
import Derived.Test.Qxb6602053aProg
import Derived.Test.Qxb6602053aMach
import Derived.WalkKit
import Derived.ProofKit
namespace Go.Proofs.Qxb6602053a
open Go.RowKit
set_option linter.unusedVariables false

theorem retI {k : IntKind} {a b : Int} (h : a = b) : Ending.returned (.int k a) = .returned (.int k b) := by rw [h]
theorem retB {a b : Bool} (h : a = b) : Ending.returned (.bool a) = .returned (.bool b) := by rw [h]

theorem blank_yes (c : Int) (w : World) (h : c = 32 ∨ c = 9) :
    Calls Try.prog 19 #[.int .u8 c] w fun e w' => e = .returned (.bool true) ∧ w' = w := by
  rcases h with rfl | rfl
  · go_enter Try.func19, Try.ntmps19
    go_wp2
    go_ret
    exact ⟨rfl, rfl⟩
  · go_enter Try.func19, Try.ntmps19
    go_wp2
    go_ret
    exact ⟨rfl, rfl⟩

theorem blank_no (c : Int) (w : World) (h : ¬ (c = 32 ∨ c = 9)) :
    Calls Try.prog 19 #[.int .u8 c] w fun e w' => e = .returned (.bool false) ∧ w' = w := by
  have h1 : (c == 32) = false := by simp; omega
  have h2 : (c == 9) = false := by simp; omega
  clear h
  go_enter Try.func19, Try.ntmps19
  go_wp2
  go_ret
  exact ⟨rfl, rfl⟩

theorem single_any (E : Int) (s : ByteArray) (j : Nat) (w : World) (hs : s.size ≤ 1048576) (hj : j ≤ s.size) :
    Calls Try.prog 22 #[.string s, .int .i64 (j : Int)] w fun e w' => ∃ J : Nat, e = .returned (.int .i64 (J : Int)) ∧ j ≤ J ∧ J ≤ s.size ∧ fin E s 0 J = fin E s 39 j ∧ w' = w := by
  obtain ⟨F, hF⟩ : ∃ F, fin E s 39 j = F := ⟨_, rfl⟩
  have HF : Hid (fin E s 39 j = F) := hF
  clear hF
  go_enter Try.func22, Try.ntmps22
  go_wp2
  go_loop [1] (fun i => ∃ k : Nat, j ≤ k ∧ k ≤ s.size ∧ i = .int .i64 k ∧ Hid (fin E s 39 k = F)) (fun i => s.size - (intOf i).toNat)
  case atStart => exact ⟨j, Nat.le_refl _, hj, rfl, HF.out⟩
  case round =>
    obtain ⟨k, hjk, hk, rfl, HP⟩ := hrel
    by_cases hlt : k < s.size
    · by_cases hc : (s[k].toNat : Int) = 39
      · have hc' : ((s[k].toNat : Int) == 39) = true := by simpa using hc
        have HN : Hid (fin E s 0 (k + 1) = F) := by
          rw [← HP.out]
          exact (fin_shut hlt (fun x => by omega) (fun x => x.2 rfl) (fun x => by omega) hc).symm
        clear hc
        go_wp2
        go_ret
        exact ⟨k + 1, by first | rfl | exact retI (by omega), by omega, by omega, by rw [HN.out, HF.out], rfl⟩
      · have hc' : ((s[k].toNat : Int) == 39) = false := by simpa using hc
        have HN : Hid (fin E s 39 (k + 1) = F) := by
          rw [← HP.out]
          exact (fin_plain hlt (fun x => by omega) (fun x => x.2 rfl) (fun x => by omega) hc).symm
        clear hc
        go_wp2
        go_round
        case rel => exact ⟨k + 1, by omega, by omega, by go_num, HN.out⟩
        case measure => simp [intOf]; omega
    · have HN : Hid (fin E s 0 s.size = F) := by
        rw [← HP.out, fin_end E s 0 s.size (Nat.le_refl _), fin_end E s 39 k (by omega)]; rfl
      go_wp2
      go_ret
      exact ⟨s.size, rfl, hj, Nat.le_refl _, by rw [HN.out, HF.out], rfl⟩

theorem double_any (E : Int) (s : ByteArray) (j : Nat) (w : World) (hs : s.size ≤ 1048576) (hj : j ≤ s.size) :
    Calls Try.prog 23 #[.string s, .int .i64 (j : Int), .int .u8 E] w fun e w' => ∃ J : Nat, e = .returned (.int .i64 (J : Int)) ∧ j ≤ J ∧ J ≤ s.size ∧ fin E s 0 J = fin E s 34 j ∧ w' = w := by
  obtain ⟨F, hF⟩ : ∃ F, fin E s 34 j = F := ⟨_, rfl⟩
  have HF : Hid (fin E s 34 j = F) := hF
  clear hF
  go_enter Try.func23, Try.ntmps23
  go_wp2
  go_loop [1] (fun i => ∃ k : Nat, j ≤ k ∧ k ≤ s.size + 1 ∧ i = .int .i64 k ∧ Hid (fin E s 34 k = F)) (fun i => s.size + 1 - (intOf i).toNat)
  case atStart => exact ⟨j, Nat.le_refl _, by omega, rfl, HF.out⟩
  case round =>
    obtain ⟨k, hjk, hk, rfl, HP⟩ := hrel
    by_cases hlt : k < s.size
    · by_cases he : (s[k].toNat : Int) = E
      · have he' : ((s[k].toNat : Int) == E) = true := by simpa using he
        have HN : Hid (fin E s 34 (k + 2) = F) := by
          rw [← HP.out]
          exact (fin_esc hlt (fun x => by omega) ⟨he, by omega⟩).symm
        clear he
        go_wp2
        go_round
        case rel => exact ⟨k + 2, by omega, by omega, by go_num, HN.out⟩
        case measure => simp [intOf]; omega
      · have he' : ((s[k].toNat : Int) == E) = false := by simpa using he
        by_cases hc : (s[k].toNat : Int) = 34
        · have hc' : ((s[k].toNat : Int) == 34) = true := by simpa using hc
          have HN : Hid (fin E s 0 (k + 1) = F) := by
            rw [← HP.out]
            exact (fin_shut hlt (fun x => by omega) (fun x => he x.1) (fun x => by omega) hc).symm
          clear hc he
          go_wp2
          go_ret
          exact ⟨k + 1, by first | rfl | exact retI (by omega), by omega, by omega, by rw [HN.out, HF.out], rfl⟩
        · have hc' : ((s[k].toNat : Int) == 34) = false := by simpa using hc
          have HN : Hid (fin E s 34 (k + 1) = F) := by
            rw [← HP.out]
            exact (fin_plain hlt (fun x => by omega) (fun x => he x.1) (fun x => by omega) hc).symm
          clear hc he
          go_wp2
          go_round
          case rel => exact ⟨k + 1, by omega, by omega, by go_num, HN.out⟩
          case measure => simp [intOf]; omega
    · have HN : Hid (fin E s 0 s.size = F) := by
        rw [← HP.out, fin_end E s 0 s.size (Nat.le_refl _), fin_end E s 34 k (by omega)]; rfl
      go_wp2
      go_ret
      exact ⟨s.size, rfl, hj, Nat.le_refl _, by rw [HN.out, HF.out], rfl⟩

set_option maxHeartbeats 1000000 in
theorem wordEnd_any (E : Int) (s : ByteArray) (j : Nat) (w : World) (hs : s.size ≤ 1048576) (hj : j ≤ s.size) :
    Calls Try.prog 20 #[.string s, .int .i64 (j : Int), .int .u8 E] w fun e w' => e = .returned (.int .i64 (fin E s 0 j : Int)) ∧ w' = w := by
  obtain ⟨F, hF⟩ : ∃ F, fin E s 0 j = F := ⟨_, rfl⟩
  rw [hF]
  have HF : Hid (fin E s 0 j = F) := hF
  clear hF
  go_enter Try.func20, Try.ntmps20
  go_wp2
  go_loopw [7] (fun i wr => ∃ k : Nat, k ≤ s.size + 1 ∧ i = .int .i64 k ∧ Hid (fin E s 0 k = F) ∧ Hid (wr = w)) (fun i _ => s.size + 1 - (intOf i).toNat)
  case atStart => exact ⟨j, by omega, rfl, HF.out, rfl⟩
  case round =>
    obtain ⟨k, hk, rfl, HP, HW⟩ := hrel
    by_cases hlt : k < s.size
    · by_cases hb : (s[k].toNat : Int) = 32 ∨ (s[k].toNat : Int) = 9
      · have c1 := fun w => blank_yes _ w hb
        have HN : Hid (k = F) := by
          rw [← HP.out]; exact (fin_blank hlt ⟨rfl, hb⟩).symm
        clear hb
        go_wp2_with fail
        refine (c1 _).mono ?_
        rintro e w2 ⟨rfl, hw2⟩
        have HW2 : Hid (w2 = w) := hw2.trans HW.out
        clear c1 hw2
        go_wp2_with fail
        go_ret
        exact ⟨retI (by rw [HN.out]), HW2.out⟩
      · have c1 := fun w => blank_no _ w hb
        have H0 : Hid (¬ ((0 : Int) = 0 ∧ ((s[k].toNat : Int) = 32 ∨ (s[k].toNat : Int) = 9))) := fun x => hb x.2
        clear hb
        by_cases he : (s[k].toNat : Int) = E
        · have he' : ((s[k].toNat : Int) == E) = true := by simpa using he
          have HN : Hid (fin E s 0 (k + 2) = F) := by
            rw [← HP.out]; exact (fin_esc hlt H0.out ⟨he, by omega⟩).symm
          clear he
          go_wp2_with fail
          refine (c1 _).mono ?_
          rintro e w2 ⟨rfl, hw2⟩
          have HW2 : Hid (w2 = w) := hw2.trans HW.out
          clear c1 hw2
          go_wp2_with fail
          go_roundw
          case rel => exact ⟨k + 2, by omega, by go_num, HN.out, HW2.out⟩
          case measure => simp [intOf]; omega
        · have he' : ((s[k].toNat : Int) == E) = false := by simpa using he
          have HE : Hid (¬ ((s[k].toNat : Int) = E ∧ ¬ (0 : Int) = 39)) := fun x => he x.1
          clear he
          by_cases h39 : (s[k].toNat : Int) = 39
          · have h39' : ((s[k].toNat : Int) == 39) = true := by simpa using h39
            have HO : Hid (fin E s 39 (k + 1) = F) := by
              have := fin_open hlt H0.out HE.out ⟨rfl, .inl h39⟩
              rw [h39] at this
              rw [← HP.out]; exact this.symm
            have c2 := fun w => single_any E s (k + 1) w hs (by omega)
            rw [show ((k + 1 : Nat) : Int) = (k : Int) + 1 by omega] at c2
            clear h39
            go_wp2_with fail
            refine (c1 _).mono ?_
            rintro e w2 ⟨rfl, hw2⟩
            have HW2 : Hid (w2 = w) := hw2.trans HW.out
            clear c1 hw2
            go_wp2_with fail
            refine (c2 _).mono ?_
            rintro e w3 ⟨J, rfl, hJ1, hJ2, hJ3, hw3⟩
            have HN : Hid (fin E s 0 J = F) := hJ3.trans HO.out
            have HW3 : Hid (w3 = w) := hw3.trans HW2.out
            clear c2 hw3 hJ3
            go_wp2_with fail
            go_roundw
            case rel => exact ⟨J, by omega, by go_num, HN.out, HW3.out⟩
            case measure => simp [intOf]; omega
          · have h39' : ((s[k].toNat : Int) == 39) = false := by simpa using h39
            by_cases h34 : (s[k].toNat : Int) = 34
            · have h34' : ((s[k].toNat : Int) == 34) = true := by simpa using h34
              have HO : Hid (fin E s 34 (k + 1) = F) := by
                have := fin_open hlt H0.out HE.out ⟨rfl, .inr h34⟩
                rw [h34] at this
                rw [← HP.out]; exact this.symm
              have c2 := fun w => double_any E s (k + 1) w hs (by omega)
              rw [show ((k + 1 : Nat) : Int) = (k : Int) + 1 by omega] at c2
              clear h34 h39
              go_wp2_with fail
              refine (c1 _).mono ?_
              rintro e w2 ⟨rfl, hw2⟩
              have HW2 : Hid (w2 = w) := hw2.trans HW.out
              clear c1 hw2
              go_wp2_with fail
              refine (c2 _).mono ?_
              rintro e w3 ⟨J, rfl, hJ1, hJ2, hJ3, hw3⟩
              have HN : Hid (fin E s 0 J = F) := hJ3.trans HO.out
              have HW3 : Hid (w3 = w) := hw3.trans HW2.out
              clear c2 hw3 hJ3
              go_wp2_with fail
              go_roundw
              case rel => exact ⟨J, by omega, by go_num, HN.out, HW3.out⟩
              case measure => simp [intOf]; omega
            · have h34' : ((s[k].toNat : Int) == 34) = false := by simpa using h34
              have hq : ¬ ((0 : Int) = 0 ∧ ((s[k].toNat : Int) = 39 ∨ (s[k].toNat : Int) = 34)) := fun x => x.2.elim h39 h34
              have HN : Hid (fin E s 0 (k + 1) = F) := by
                rw [← HP.out]
                by_cases hz : (s[k].toNat : Int) = 0
                · exact (fin_shut hlt H0.out HE.out hq hz).symm
                · exact (fin_plain hlt H0.out HE.out hq hz).symm
              clear h34 h39 hq
              go_wp2_with fail
              refine (c1 _).mono ?_
              rintro e w2 ⟨rfl, hw2⟩
              have HW2 : Hid (w2 = w) := hw2.trans HW.out
              clear c1 hw2
              go_wp2_with fail
              go_roundw
              case rel => exact ⟨k + 1, by omega, by go_num, HN.out, HW2.out⟩
              case measure => simp [intOf]; omega
    · have HN : Hid (s.size = F) := by
        rw [← HP.out, fin_end E s 0 k (by omega)]; rfl
      go_wp2_with fail
      go_ret
      exact ⟨retI (by rw [HN.out]), HW.out⟩

end Go.Proofs.Qxb6602053a
