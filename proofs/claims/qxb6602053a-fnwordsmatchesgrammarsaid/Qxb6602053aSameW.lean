/-
  sameWords (11) at two rows that hold the same words; FnWordsMatchesGrammar (3): the walk. zzBytes (8).
-/
import Derived.Test.Qxb6602053aWds
import Derived.Deep.QuietTactic
import Derived.BigQuiet
import Derived.WalkSpells
namespace Go.Proofs.Qxb6602053a
open Go.RowKit
set_option linter.unusedVariables false

/-- 'w'' is 'w' after some draws -/
def Drawn (w w' : World) : Prop := ∃ n, w' = w.drewN n
theorem Drawn.refl (w : World) : Drawn w w := ⟨0, rfl⟩
theorem Drawn.trans {a b c : World} (h : Drawn a b) (g : Drawn b c) : Drawn a c := by
  obtain ⟨n, rfl⟩ := h
  obtain ⟨m, rfl⟩ := g
  exact ⟨n + m, by rw [World.drewN_drewN]⟩
theorem Drawn.one (w : World) (n : Nat) : Drawn w (w.drewN n) := ⟨n, rfl⟩
theorem Drawn.below {w w' : World} (h : Drawn w w') (B : Nat) : Below B w w' := by
  obtain ⟨n, rfl⟩ := h
  exact ⟨rfl, rfl, rfl, Nat.le_refl _, fun _ _ => rfl⟩
theorem Drawn.cell {w w' : World} (h : Drawn w w') (a : Addr) : w'.cell? a = w.cell? a := by
  obtain ⟨n, rfl⟩ := h
  rfl

theorem same_nil (w : World) :
    Calls Try.prog 11 #[.slice none 0 0, .slice none 0 0] w fun e w' => e = .returned (.bool true) ∧ Drawn w w' := by
  have q23 : ∀ (w : World) (a : Option Addr) (n c : Nat), (binOp .eql 23 (.slice a n c) (.slice none 0 0)).run Try.prog w = .ok (.bool a.isNone) w := fun w a n c => Lib.run_eql_slice_nil w 23 9 a n c 0 0 Try.underlying23
  go_enter Try.func11, Try.ntmps11
  go_wp2_with fail
  go_loop [5] (fun i => i = .int .i64 0) (fun _ => 0)
  case atStart => rfl
  case round =>
    subst hrel
    go_wp2_with fail
    go_ret
    exact ⟨rfl, Drawn.refl _⟩

set_option maxHeartbeats 1000000 in
theorem same_some (g1 g2 n c1 c2 : Nat) (w : World) (hn : n ≤ 2097152) (hc : ∀ j, j < n → ∃ x : ByteArray, w.cell? ⟨g1, j, none⟩ = some (.string x) ∧ w.cell? ⟨g2, j, none⟩ = some (.string x)) :
    Calls Try.prog 11 #[.slice (some ⟨g1, 0, none⟩) n c1, .slice (some ⟨g2, 0, none⟩) n c2] w fun e w' => e = .returned (.bool true) ∧ Drawn w w' := by
  have q23 : ∀ (w : World) (a : Option Addr) (n c : Nat), (binOp .eql 23 (.slice a n c) (.slice none 0 0)).run Try.prog w = .ok (.bool a.isNone) w := fun w a n c => Lib.run_eql_slice_nil w 23 9 a n c 0 0 Try.underlying23
  have HC : Hid (∀ j, j < n → ∃ x : ByteArray, w.cell? ⟨g1, j, none⟩ = some (.string x) ∧ w.cell? ⟨g2, j, none⟩ = some (.string x)) := hc
  clear hc
  go_enter Try.func11, Try.ntmps11
  go_wp2_with fail
  clear q23
  go_loopw [5] (fun i wr => ∃ k : Nat, k ≤ n ∧ i = .int .i64 k ∧ Hid (Drawn w wr)) (fun i _ => n - (intOf i).toNat)
  case atStart => exact ⟨0, Nat.zero_le _, rfl, Drawn.refl _⟩
  case round =>
    obtain ⟨k, hk, rfl, HD⟩ := hrel
    by_cases hlt : k < n
    · obtain ⟨x, hx1, hx2⟩ := HC.out k hlt
      rw [← HD.out.cell] at hx1 hx2
      have hlI : (k : Int) < (n : Int) := by omega
      go_wp2_with fail
      go_quiet (fail)
      go_wp2_with fail
      go_roundw
      case rel => exact ⟨k + 1, by omega, by go_num, HD.out.trans (Drawn.one _ _)⟩
      case measure => simp [intOf]; omega
    · go_wp2_with fail
      go_ret
      exact ⟨rfl, HD.out⟩

end Go.Proofs.Qxb6602053a
