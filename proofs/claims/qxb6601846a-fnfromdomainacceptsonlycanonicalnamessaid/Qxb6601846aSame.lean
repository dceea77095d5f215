/-
  sameFold (17): the two bytes are alike in lower case. zzBytes (19).
-/
import Derived.Test.Qxb6601846aFold
import Derived.Laws.BitsAllLaws
namespace Go.Proofs.Qxb6601846a
open Go.RowKit
set_option linter.unusedVariables false

theorem xor_flip : ∀ x : Fin 256, (low ((x.val : Nat) : Int) = low ((x.val ^^^ 32 : Nat) : Int)) ↔ (97 ≤ x.val ||| 32 ∧ x.val ||| 32 ≤ 122) := by
  unfold low
  decide +kernel
theorem xor_cap : ∀ x : Fin 256, (65 ≤ x.val ∧ x.val ≤ 90) → x.val ^^^ (x.val + 32) = 32 := by decide +kernel

def sf (x y : UInt8) : Bool := decide (lowB x = lowB y)

theorem sf_flip (x y : UInt8) (h : x.toNat ^^^ y.toNat = 32) : (lowB x = lowB y) ↔ (97 ≤ x.toNat ||| 32 ∧ x.toNat ||| 32 ≤ 122) := by
  have e : y.toNat = x.toNat ^^^ 32 := by rw [← h, ← Nat.xor_assoc, Nat.xor_self, Nat.zero_xor]
  have := xor_flip ⟨x.toNat, UInt8.toNat_lt x⟩
  unfold lowB
  rw [e]
  exact this

theorem sf_not (x y : UInt8) (hne : ¬ x.toNat = y.toNat) (h : ¬ x.toNat ^^^ y.toNat = 32) : ¬ lowB x = lowB y := by
  intro e
  unfold lowB low at e
  have h1 := UInt8.toNat_lt x
  have h2 := UInt8.toNat_lt y
  by_cases a : 65 ≤ (x.toNat : Int) ∧ (x.toNat : Int) ≤ 90
  · by_cases b : 65 ≤ (y.toNat : Int) ∧ (y.toNat : Int) ≤ 90
    · rw [if_pos a, if_pos b] at e; omega
    · rw [if_pos a, if_neg b] at e
      have e' : y.toNat = x.toNat + 32 := by omega
      exact h (by rw [e']; exact xor_cap ⟨x.toNat, h1⟩ (by simp only; omega))
  · by_cases b : 65 ≤ (y.toNat : Int) ∧ (y.toNat : Int) ≤ 90
    · rw [if_neg a, if_pos b] at e
      have e' : x.toNat = y.toNat + 32 := by omega
      exact h (by rw [e', Nat.xor_comm]; exact xor_cap ⟨y.toNat, h2⟩ (by simp only; omega))
    · rw [if_neg a, if_neg b] at e; omega

theorem sameFold_any (x y : UInt8) (w : World) :
    Calls Try.prog 17 #[.int .u8 (x.toNat : Int), .int .u8 (y.toNat : Int)] w fun e w' => e = .returned (.bool (sf x y)) ∧ w' = w := by
  have h1 := UInt8.toNat_lt x
  have h2 := UInt8.toNat_lt y
  have hx := u8_xor_nat x.toNat y.toNat h1 h2
  have ho : bits .or .u8 (x.toNat : Int) 32 = ((x.toNat ||| 32 : Nat) : Int) := u8_or_nat x.toNat 32 h1 (by omega)
  by_cases e : x.toNat = y.toNat
  · have e' : ((x.toNat : Int) == (y.toNat : Int)) = true := by simp [e]
    have E : Hid (x.toNat = y.toNat) := e
    clear e
    go_enter Try.func17, Try.ntmps17
    go_wp2
    go_ret
    exact ⟨ret_bool (by unfold sf lowB; rw [E.out]; simp), rfl⟩
  · have e' : ((x.toNat : Int) == (y.toNat : Int)) = false := by simp; omega
    by_cases f : x.toNat ^^^ y.toNat = 32
    · have hs := sf_flip x y f
      have f' : (((x.toNat ^^^ y.toNat : Nat) : Int) != 32) = false := by simp [f]
      have HF : Hid ((lowB x = lowB y) ↔ (97 ≤ x.toNat ||| 32 ∧ x.toNat ||| 32 ≤ 122)) := hs
      clear hs f e
      by_cases g : 97 ≤ x.toNat ||| 32
      · by_cases g2 : x.toNat ||| 32 ≤ 122
        · go_enter Try.func17, Try.ntmps17
          go_wp2
          go_ret
          exact ⟨ret_bool (by unfold sf; rw [decide_eq_true (HF.out.2 ⟨g, g2⟩)]; simp; omega), rfl⟩
        · go_enter Try.func17, Try.ntmps17
          go_wp2
          go_ret
          exact ⟨ret_bool (by unfold sf; rw [decide_eq_false (fun h => g2 (HF.out.1 h).2)]; simp; omega), rfl⟩
      · have g' : decide (97 ≤ ((x.toNat ||| 32 : Nat) : Int)) = false := by simp; omega
        go_enter Try.func17, Try.ntmps17
        go_wp2
        go_ret
        exact ⟨ret_bool (by unfold sf; rw [decide_eq_false (fun h => g (HF.out.1 h).1)]), rfl⟩
    · have f' : (((x.toNat ^^^ y.toNat : Nat) : Int) != 32) = true := by simp; omega
      have HS : Hid (¬ lowB x = lowB y) := sf_not x y e f
      clear e f
      go_enter Try.func17, Try.ntmps17
      go_wp2
      go_ret
      exact ⟨ret_bool (by unfold sf; rw [decide_eq_false HS.out]), rfl⟩

end Go.Proofs.Qxb6601846a
