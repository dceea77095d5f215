/-
  fromDomainModel (11) below a suffix: the walk.
-/
import Derived.Test.Qxb6601846aModel
namespace Go.Proofs.Qxb6601846a
open Go.RowKit
set_option linter.unusedVariables false

theorem cut_short {N S : ByteArray} (h0 : ¬ S.size = 0) (h1 : N.size < S.size + 2) : cutBody N S = none := by
  unfold cutBody; rw [if_neg h0, if_pos h1]
theorem cut_nodot {N S : ByteArray} (h0 : ¬ S.size = 0) (h1 : ¬ N.size < S.size + 2) (h2 : ¬ gt N (N.size - S.size - 1) = 46) : cutBody N S = none := by
  unfold cutBody; rw [if_neg h0, if_neg h1, if_neg h2]
theorem cut_other {N S : ByteArray} (h0 : ¬ S.size = 0) (h1 : ¬ N.size < S.size + 2) (h2 : gt N (N.size - S.size - 1) = 46) (h3 : eqf (N.extract (N.size - S.size) N.size) S = false) : cutBody N S = none := by
  unfold cutBody; rw [if_neg h0, if_neg h1, if_pos h2, if_neg (by rw [h3]; decide)]
theorem cut_yes {N S : ByteArray} (h0 : ¬ S.size = 0) (h1 : ¬ N.size < S.size + 2) (h2 : gt N (N.size - S.size - 1) = 46) (h3 : eqf (N.extract (N.size - S.size) N.size) S = true) : cutBody N S = some (N.extract 0 (N.size - S.size - 1)) := by
  unfold cutBody; rw [if_neg h0, if_neg h1, if_pos h2, if_pos h3]
theorem ans_none {N S : ByteArray} (h : cutBody N S = none) : Ending.returned (.tuple #[.string ⟨#[]⟩, .bool false]) = .returned (.tuple #[.string (ansNum (cutBody N S)), .bool (ansOk (cutBody N S))]) := by
  rw [h]; rfl

theorem sf_yes {x y : UInt8} (h : sf x y = true) : lowB x = lowB y := of_decide_eq_true h
theorem sf_no {x y : UInt8} (h : sf x y = false) : ¬ lowB x = lowB y := of_decide_eq_false h
theorem ans_bad' {N S B : ByteArray} (hc : cutBody N S = some B) (h : ¬ okBody B) : Ending.returned (.tuple #[.string ⟨#[]⟩, .bool false]) = .returned (.tuple #[.string (ansNum (cutBody N S)), .bool (ansOk (cutBody N S))]) := by
  rw [hc]; exact ans_bad h
theorem ans_good' {N S B : ByteArray} (hc : cutBody N S = some B) (h : okBody B) : Ending.returned (.tuple #[.string (digs B), .bool true]) = .returned (.tuple #[.string (ansNum (cutBody N S)), .bool (ansOk (cutBody N S))]) := by
  rw [hc]; exact ans_good h

set_option maxHeartbeats 4000000 in
theorem model_below (name suffix N S : ByteArray) (hn : name.size ≤ 2097152) (hs : suffix.size ≤ 2097152) (hN : trimDot name = N) (hS : trimDot suffix = S) (h0 : ¬ S.size = 0) (w : World) :
    Calls Try.prog 11 #[.string name, .string suffix] w fun e w' => e = .returned (.tuple #[.string (ansNum (cutBody N S)), .bool (ansOk (cutBody N S))]) ∧ Grown w w' := by
  have z1 : N.size ≤ 2097152 := by rw [← hN]; exact Nat.le_trans (trimDot_le name) hn
  have z2 : S.size ≤ 2097152 := by rw [← hS]; exact Nat.le_trans (trimDot_le suffix) hs
  have c1 := fun w => trim15_known name N hN w (by unfold maxLen; omega)
  have c2 := fun w => trim15_known suffix S hS w (by unfold maxLen; omega)
  have e0 : 0 < S.size := by omega
  by_cases h1 : N.size < S.size + 2
  · have HB : Hid (cutBody N S = none) := cut_short h0 h1
    clear h0
    go_enter Try.func11, Try.ntmps11
    go_wp2_with fail
    refine (c1 _).mono ?_
    rintro e w' ⟨rfl, rfl⟩
    go_wp2_with fail
    refine (c2 _).mono ?_
    rintro e w'' ⟨rfl, rfl⟩
    clear c1 c2 hN hS
    go_wp2_with fail
    go_ret2
    exact ⟨ans_none HB.out, Grown.refl _⟩
  · have i1 : N.size - S.size - 1 < N.size := by omega
    have g1 := gt_at N (N.size - S.size - 1) i1
    by_cases h2 : gt N (N.size - S.size - 1) = 46
    · rw [h2] at g1
      have g2 : ((N[N.size - S.size - 1].toNat : Int) != 46) = false := by simpa using g1
      have H0 : Hid (¬ S.size = 0) := h0
      have H2 : Hid (gt N (N.size - S.size - 1) = 46) := h2
      clear g1 h0 h2
      go_enter Try.func11, Try.ntmps11
      go_wp2_with fail
      refine (c1 _).mono ?_
      rintro e w' ⟨rfl, rfl⟩
      go_wp2_with fail
      refine (c2 _).mono ?_
      rintro e w'' ⟨rfl, rfl⟩
      clear c1 c2 hN hS
      go_wp2_with fail
      go_loopw [8] (fun i wr => ∃ k : Nat, k ≤ S.size ∧ i = .int .i64 k ∧ Hid (Drawn w'' wr) ∧ Hid (((N.extract (N.size - S.size) N.size).data.toList.take k).map lowB = (S.data.toList.take k).map lowB)) (fun i _ => S.size - (intOf i).toNat)
      case atStart => exact ⟨0, Nat.zero_le _, rfl, Drawn.refl _, rfl⟩
      case round =>
        obtain ⟨k, hk, rfl, HD, HP⟩ := hrel
        by_cases hlt : k < S.size
        · have i2 : N.size - S.size + k < N.size := by omega
          have i3 : k < (N.extract (N.size - S.size) N.size).size := by simp; omega
          have HI : Hid ((N.extract (N.size - S.size) N.size)[k] = N[N.size - S.size + k]) := by
            show _ = _
            simp [ByteArray.getElem_extract]
          have hwr : IntKind.i64.wrap ((N.size : Int) - (S.size : Int) + (k : Int)) = ((N.size - S.size + k : Nat) : Int) := by rw [IntKind.wrap_i64]; omega
          have hb1 : ((N.size - S.size : Nat) : Int) + (k : Int) < (N.size : Int) := by omega
          have hb0 : 0 ≤ ((N.size - S.size : Nat) : Int) + (k : Int) := by omega
          have htn : (((N.size - S.size : Nat) : Int) + (k : Int)).toNat = N.size - S.size + k := by omega
          go_wp2_with fail
          go_quiet ((go_at_call 17; exact Calls.quiet_of_same (sameFold_any _ _ _)))
          cases hc : sf N[N.size - S.size + k] S[k]
          · have HC : Hid (sf N[N.size - S.size + k] S[k] = false) := hc
            have HB : Hid (cutBody N S = none) := cut_other H0.out h1 H2.out (eqf_at k i3 hlt (by rw [HI.out]; exact sf_no HC.out))
            go_wp2_with fail
            go_ret2
            exact ⟨ans_none HB.out, (HD.out.trans (Drawn.one _ _)).grown⟩
          · have HC : Hid (sf N[N.size - S.size + k] S[k] = true) := hc
            go_wp2_with fail
            go_roundw
            case rel => exact ⟨k + 1, by omega, by go_num, HD.out.trans (Drawn.one _ _), snoc_eq k i3 hlt HP.out (by rw [HI.out]; exact sf_yes HC.out)⟩
            case measure => simp [intOf]; omega
        · have HE : Hid (eqf (N.extract (N.size - S.size) N.size) S = true) := eqf_all (by simp; omega) k (by simp; omega) HP.out
          have HX : Hid (cutBody N S = some (N.extract 0 (N.size - S.size - 1))) := cut_yes H0.out h1 H2.out HE.out
          have hcz : (N.extract 0 (N.size - S.size - 1)).size = N.size - S.size - 1 := by simp; omega
          have HZ : Hid ((N.extract 0 (N.size - S.size - 1)).size = N.size - S.size - 1) := hcz
          clear hcz HE HP
          by_cases ho : (N.size - S.size - 1) % 2 = 1
          · by_cases h29 : N.size - S.size - 1 ≤ 29
            · go_wp2_with fail
              obtain ⟨B, hB⟩ : ∃ B, N.extract 0 (N.size - S.size - 1) = B := ⟨_, rfl⟩
              rw [hB]
              rw [hB] at HX HZ
              clear hB
              have b1 : B.size ≤ N.size - S.size - 1 := by rw [HZ.out]; exact Nat.le_refl _
              have b2 : N.size - S.size - 1 ≤ B.size := by rw [HZ.out]; exact Nat.le_refl _
              have hoB : B.size % 2 = 1 := by omega
              have h29B : B.size ≤ 29 := by omega
              clear ho h29
              go_loop [9] (fun i => ∃ k : Nat, k ≤ B.size ∧ i = .int .i64 k ∧ Hid (∀ i, i < k → good B i)) (fun i => B.size - (intOf i).toNat)
              case atStart => exact ⟨0, Nat.zero_le _, rfl, fun i hi => by omega⟩
              case round =>
                obtain ⟨k, hk, rfl, HP⟩ := hrel
                by_cases hlt : k < B.size
                · have HG : Hid ((B[k].toNat : Int) = gt B k) := gt_at B k hlt
                  by_cases hm : k % 2 = 0
                  · by_cases h48 : (48 : Int) ≤ (B[k].toNat : Int)
                    · by_cases h57 : (B[k].toNat : Int) ≤ 57
                      · have HN : Hid (∀ i, i < k + 1 → good B i) := good_step HP.out ⟨fun _ => by rw [← HG.out]; exact ⟨h48, h57⟩, fun h => by omega⟩
                        go_wp2_with fail
                        go_round
                        case rel => exact ⟨k + 1, by omega, by go_num, HN.out⟩
                        case measure => simp [intOf]; omega
                      · have HB : Hid (¬ okBody B) := fun h => by have := (h.2.2 k hlt).1 hm; rw [← HG.out] at this; omega
                        go_wp2_with fail
                        go_ret2
                        exact ⟨ans_bad' HX.out HB.out, HD.out.grown⟩
                    · have HB : Hid (¬ okBody B) := fun h => by have := (h.2.2 k hlt).1 hm; rw [← HG.out] at this; omega
                      go_wp2_with fail
                      go_ret2
                      exact ⟨ans_bad' HX.out HB.out, HD.out.grown⟩
                  · have hm1 : k % 2 = 1 := by omega
                    by_cases hd : (B[k].toNat : Int) = 46
                    · have HN : Hid (∀ i, i < k + 1 → good B i) := good_step HP.out ⟨fun h => by omega, fun _ => by rw [← HG.out]; exact hd⟩
                      have hd' : ((B[k].toNat : Int) != 46) = false := by simpa using hd
                      clear hd
                      go_wp2_with fail
                      go_round
                      case rel => exact ⟨k + 1, by omega, by go_num, HN.out⟩
                      case measure => simp [intOf]; omega
                    · have HB : Hid (¬ okBody B) := fun h => hd (by rw [HG.out]; exact (h.2.2 k hlt).2 hm1)
                      have hd' : ((B[k].toNat : Int) != 46) = true := by simpa using hd
                      clear hd
                      go_wp2_with fail
                      go_ret2
                      exact ⟨ans_bad' HX.out HB.out, HD.out.grown⟩
                · have HO : Hid (okBody B) := ⟨hoB, h29B, fun i hi => HP.out i (by omega)⟩
                  clear HP
                  obtain ⟨m, hm1, hm2⟩ : ∃ m, B.size ≤ 2 * m + 1 ∧ 2 * m + 1 ≤ B.size := ⟨B.size / 2, by omega, by omega⟩
                  have hk2 : ((B.size : Int) + 1) / 2 = (m : Int) + 1 := by omega
                  have hmk := fun w => make_bytes (m + 1) (by omega) w
                  rw [show (((m + 1 : Nat) : Int)) = (m : Int) + 1 by omega] at hmk
                  go_wp2_with fail
                  clear hmk hk2
                  go_loopw [12] (fun j wq => ∃ (n : Nat) (cs : Array Value), n ≤ m + 1 ∧ j = .int .i64 n ∧ cs.size = m + 1 ∧ wq = wr.alloc (.cells cs 5) ∧ Hid (∀ j, j < n → cs[j]? = some (.int .u8 (gt B (B.size - 1 - 2 * j))))) (fun j _ => m + 1 - (intOf j).toNat)
                  case atStart => exact ⟨0, _, by omega, rfl, size_made _ _, rfl, fun j hj => by omega⟩
                  case round =>
                    obtain ⟨n, cs, hn1, rfl, hcs, rfl, HC⟩ := hrel
                    by_cases hlt2 : n < m + 1
                    · have hix : B.size - 1 - 2 * n < B.size := by omega
                      obtain ⟨v0, hv0⟩ : ∃ v, cs[n]? = some v := ⟨_, Array.getElem?_eq_getElem (by omega)⟩
                      have HV : Hid (∀ j, j < n + 1 → (cs.setIfInBounds n (.int .u8 (B[B.size - 1 - 2 * n].toNat : Int)))[j]? = some (.int .u8 (gt B (B.size - 1 - 2 * j)))) := cells_step cs B n (by omega) _ (gt_at B _ hix) HC.out
                      go_wp2_with fail
                      go_roundw
                      case rel => exact ⟨n + 1, _, by omega, by go_num, by simp [hcs], rfl, HV.out⟩
                      case measure => simp [intOf]; omega
                    · have hcv := conv_digits 9 Try.underlying9 wr cs 5 B (m + 1) (m + 1) (fun j hj => HC.out j (by omega))
                      go_wp2_with fail
                      go_ret2
                      exact ⟨by rw [digs_of (show B.size = 2 * m + 1 by omega)]; exact ans_good' HX.out HO.out, HD.out.grown.alloc _ _⟩
            · have HB : Hid (¬ okBody (N.extract 0 (N.size - S.size - 1))) := fun h => h29 (by have := h.2.1; rw [HZ.out] at this; exact this)
              go_wp2_with fail
              go_ret2
              exact ⟨ans_bad' HX.out HB.out, HD.out.grown⟩
          · have HB : Hid (¬ okBody (N.extract 0 (N.size - S.size - 1))) := fun h => ho (by have := h.1; rw [HZ.out] at this; exact this)
            go_wp2_with fail
            go_ret2
            exact ⟨ans_bad' HX.out HB.out, HD.out.grown⟩
    · have HB : Hid (cutBody N S = none) := cut_nodot h0 h1 h2
      rw [← g1] at h2
      have g2 : ((N[N.size - S.size - 1].toNat : Int) != 46) = true := by simpa using h2
      clear g1 h0 h2
      go_enter Try.func11, Try.ntmps11
      go_wp2_with fail
      refine (c1 _).mono ?_
      rintro e w' ⟨rfl, rfl⟩
      go_wp2_with fail
      refine (c2 _).mono ?_
      rintro e w'' ⟨rfl, rfl⟩
      clear c1 c2 hN hS
      go_wp2_with fail
      go_ret2
      exact ⟨ans_none HB.out, Grown.refl _⟩

theorem fromModel_any (name suffix : ByteArray) (hn : name.size ≤ 2097152) (hs : suffix.size ≤ 2097152) (w : World) :
    Calls Try.prog 11 #[.string name, .string suffix] w fun e w' => e = .returned (.tuple #[.string (fdNum name suffix), .bool (fdOk name suffix)]) ∧ Grown w w' := by
  unfold fdNum fdOk
  by_cases h0 : (trimDot suffix).size = 0
  · have e : cutBody (trimDot name) (trimDot suffix) = some (trimDot name) := by unfold cutBody; rw [if_pos h0]
    rw [e]
    exact model_root name suffix _ _ (by unfold maxLen; omega) (by unfold maxLen; omega) rfl rfl h0 w
  · exact model_below name suffix _ _ hn hs rfl rfl h0 w

end Go.Proofs.Qxb6601846a
