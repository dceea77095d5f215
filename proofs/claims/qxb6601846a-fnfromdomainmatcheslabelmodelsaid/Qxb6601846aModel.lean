/-
  fromDomainModel (11): the walk.
-/
import Derived.Test.Qxb6601846aFrom
import Derived.Test.Qxb6601846aSame
import Derived.Deep.OwnRows
namespace Go.Proofs.Qxb6601846a
open Go.RowKit
set_option linter.unusedVariables false

theorem info5 : (Try.prog.info? 5).map (fun i => (i.zero, i.size, i.bytes)) = some (some (.int .u8 0), 1, 1) := by kernel_rfl

theorem trim15_known (s t : ByteArray) (h : trimDot s = t) (w : World) (hs : s.size ≤ maxLen) :
    Calls Try.prog 15 #[.string s] w fun e w' => e = .returned (.string t) ∧ w' = w := by
  subst h; exact trimOne_any s w hs

/-- one place of the body is as it should be -/
def good (B : ByteArray) (i : Nat) : Prop := (i % 2 = 0 → 48 ≤ gt B i ∧ gt B i ≤ 57) ∧ (i % 2 = 1 → gt B i = 46)

theorem make_bytes (n : Nat) (h : n ≤ 281474976710656) (w : World) :
    (Instr.makeSlice 35 (.int .i64 (n : Int)) (.int .i64 (n : Int))).run Try.prog w = .ok (.slice (some ⟨w.heap.size, 0, none⟩) n n) (w.alloc (.cells (madeCells #[.int .u8 0] n) 5)) :=
  run_make_row' (P := Try.prog) 35 5 (.int .u8 0) 1 Try.underlying35 info5 rfl .i64 .i64 n (by omega) (by omega) w
theorem size_made (z : Array Value) (n : Nat) : (madeCells z n).size = n := by simp [madeCells]

theorem good_step {B : ByteArray} {k : Nat} (h : ∀ i, i < k → good B i) (g : good B k) : ∀ i, i < k + 1 → good B i := by
  intro i hi
  by_cases e : i = k
  · subst e; exact g
  · exact h i (by omega)

set_option maxHeartbeats 4000000 in
theorem model_root (name suffix N S : ByteArray) (hn : name.size ≤ maxLen) (hs : suffix.size ≤ maxLen) (hN : trimDot name = N) (hS : trimDot suffix = S) (h0 : S.size = 0) (w : World) :
    Calls Try.prog 11 #[.string name, .string suffix] w fun e w' => e = .returned (.tuple #[.string (ansNum (some N)), .bool (okB N)]) ∧ Grown w w' := by
  have z1 : N.size ≤ 9223372036854775807 := by rw [← hN]; exact Nat.le_trans (trimDot_le name) hn
  have z2 : S.size ≤ 9223372036854775807 := by rw [← hS]; exact Nat.le_trans (trimDot_le suffix) hs
  have c1 := fun w => trim15_known name N hN w hn
  have c2 := fun w => trim15_known suffix S hS w hs
  have e0 : S.size < 1 := by omega
  clear h0
  by_cases ho : N.size % 2 = 1
  · by_cases h29 : N.size ≤ 29
    · go_enter Try.func11, Try.ntmps11
      go_wp2_with fail
      refine (c1 _).mono ?_
      rintro e w' ⟨rfl, rfl⟩
      go_wp2_with fail
      refine (c2 _).mono ?_
      rintro e w'' ⟨rfl, rfl⟩
      clear c1 c2 hN hS
      go_wp2_with fail
      go_loop [9] (fun i => ∃ k : Nat, k ≤ N.size ∧ i = .int .i64 k ∧ Hid (∀ i, i < k → good N i)) (fun i => N.size - (intOf i).toNat)
      case atStart => exact ⟨0, Nat.zero_le _, rfl, fun i hi => by omega⟩
      case round =>
        obtain ⟨k, hk, rfl, HP⟩ := hrel
        by_cases hlt : k < N.size
        · have HG : Hid ((N[k].toNat : Int) = gt N k) := gt_at N k hlt
          by_cases hm : k % 2 = 0
          · by_cases h48 : (48 : Int) ≤ (N[k].toNat : Int)
            · by_cases h57 : (N[k].toNat : Int) ≤ 57
              · have HN : Hid (∀ i, i < k + 1 → good N i) := good_step HP.out ⟨fun _ => by rw [← HG.out]; exact ⟨h48, h57⟩, fun h => by omega⟩
                go_wp2_with fail
                go_round
                case rel => exact ⟨k + 1, by omega, by go_num, HN.out⟩
                case measure => simp [intOf]; omega
              · have HB : Hid (¬ okBody N) := fun h => by have := (h.2.2 k hlt).1 hm; rw [← HG.out] at this; omega
                go_wp2_with fail
                go_ret2
                exact ⟨ans_bad HB.out, Grown.refl _⟩
            · have HB : Hid (¬ okBody N) := fun h => by have := (h.2.2 k hlt).1 hm; rw [← HG.out] at this; omega
              go_wp2_with fail
              go_ret2
              exact ⟨ans_bad HB.out, Grown.refl _⟩
          · have hm1 : k % 2 = 1 := by omega
            by_cases hd : (N[k].toNat : Int) = 46
            · have HN : Hid (∀ i, i < k + 1 → good N i) := good_step HP.out ⟨fun h => by omega, fun _ => by rw [← HG.out]; exact hd⟩
              have hd' : ((N[k].toNat : Int) != 46) = false := by simpa using hd
              clear hd
              go_wp2_with fail
              go_round
              case rel => exact ⟨k + 1, by omega, by go_num, HN.out⟩
              case measure => simp [intOf]; omega
            · have HB : Hid (¬ okBody N) := fun h => hd (by rw [HG.out]; exact (h.2.2 k hlt).2 hm1)
              have hd' : ((N[k].toNat : Int) != 46) = true := by simpa using hd
              clear hd
              go_wp2_with fail
              go_ret2
              exact ⟨ans_bad HB.out, Grown.refl _⟩
        · have HO : Hid (okBody N) := ⟨ho, h29, fun i hi => HP.out i (by omega)⟩
          clear HP
          obtain ⟨m, hm1, hm2⟩ : ∃ m, N.size ≤ 2 * m + 1 ∧ 2 * m + 1 ≤ N.size := ⟨N.size / 2, by omega, by omega⟩
          have hk2 : ((N.size : Int) + 1) / 2 = (m : Int) + 1 := by omega
          have hmk := fun w => make_bytes (m + 1) (by omega) w
          rw [show (((m + 1 : Nat) : Int)) = (m : Int) + 1 by omega] at hmk
          go_wp2_with fail
          clear hmk hk2
          go_loopw [12] (fun j wr => ∃ (n : Nat) (cs : Array Value), n ≤ m + 1 ∧ j = .int .i64 n ∧ cs.size = m + 1 ∧ wr = w''.alloc (.cells cs 5) ∧ Hid (∀ j, j < n → cs[j]? = some (.int .u8 (gt N (N.size - 1 - 2 * j))))) (fun j _ => m + 1 - (intOf j).toNat)
          case atStart => exact ⟨0, _, by omega, rfl, size_made _ _, rfl, fun j hj => by omega⟩
          case round =>
            obtain ⟨n, cs, hn1, rfl, hcs, rfl, HC⟩ := hrel
            by_cases hlt2 : n < m + 1
            · have hix : N.size - 1 - 2 * n < N.size := by omega
              obtain ⟨v0, hv0⟩ : ∃ v, cs[n]? = some v := ⟨_, Array.getElem?_eq_getElem (by omega)⟩
              have HV : Hid (∀ j, j < n + 1 → (cs.setIfInBounds n (.int .u8 (N[N.size - 1 - 2 * n].toNat : Int)))[j]? = some (.int .u8 (gt N (N.size - 1 - 2 * j)))) := cells_step cs N n (by omega) _ (gt_at N _ hix) HC.out
              go_wp2_with fail
              go_roundw
              case rel => exact ⟨n + 1, _, by omega, by go_num, by simp [hcs], rfl, HV.out⟩
              case measure => simp [intOf]; omega
            · have hcv := conv_digits 9 Try.underlying9 w'' cs 5 N (m + 1) (m + 1) (fun j hj => HC.out j (by omega))
              go_wp2_with fail
              go_ret2
              exact ⟨by rw [digs_of (show N.size = 2 * m + 1 by omega)]; exact ans_good HO.out, (Grown.refl _).alloc _ _⟩
    · have HB : Hid (¬ okBody N) := fun h => h29 h.2.1
      go_enter Try.func11, Try.ntmps11
      go_wp2_with fail
      refine (c1 _).mono ?_
      rintro e w' ⟨rfl, rfl⟩
      go_wp2_with fail
      refine (c2 _).mono ?_
      rintro e w'' ⟨rfl, rfl⟩
      clear c1 c2 hN hS
      go_wp2_with fail
      go_ret2
      exact ⟨ans_bad HB.out, Grown.refl _⟩
  · have HB : Hid (¬ okBody N) := fun h => ho h.1
    go_enter Try.func11, Try.ntmps11
    go_wp2_with fail
    refine (c1 _).mono ?_
    rintro e w' ⟨rfl, rfl⟩
    go_wp2_with fail
    refine (c2 _).mono ?_
    rintro e w'' ⟨rfl, rfl⟩
    clear c1 c2 hN hS
    go_wp2_with fail
    go_ret2
    exact ⟨ans_bad HB.out, Grown.refl _⟩

end Go.Proofs.Qxb6601846a
