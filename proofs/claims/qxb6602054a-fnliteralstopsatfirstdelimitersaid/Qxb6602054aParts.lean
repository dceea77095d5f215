/-
  ZZLiteral (14), zzJtB1Same (11), zzJtB1Clone (9): by contracts.
-/
import Derived.Test.Qxb6602054aLit
import Derived.Deep.OwnRows
import Derived.WalkSpells
namespace Go.Proofs.Qxb6602054a
open Go.RowKit
set_option linter.unusedVariables false

/-- 'w'' is 'w' after some draws -/
def Drawn (w w' : World) : Prop := ∃ n, w' = w.drewN n
theorem Drawn.refl (w : World) : Drawn w w := ⟨0, rfl⟩
theorem Drawn.trans {a b c : World} (h : Drawn a b) (g : Drawn b c) : Drawn a c := by
  obtain ⟨n, rfl⟩ := h
  obtain ⟨m, rfl⟩ := g
  exact ⟨n + m, by rw [World.drewN_drewN]⟩
theorem Drawn.one (w : World) (n : Nat) : Drawn w (w.drewN n) := ⟨n, rfl⟩
theorem Drawn.below {w w' : World} (h : Drawn w w') (B : Nat) : Below B w w' := by
  obtain ⟨n, rfl⟩ := h
  exact ⟨rfl, rfl, rfl, Nat.le_refl _, fun _ _ => rfl⟩
theorem Drawn.cell {w w' : World} (h : Drawn w w') (a : Addr) : w'.cell? a = w.cell? a := by
  obtain ⟨n, rfl⟩ := h
  rfl

theorem new_cells (w : World) (x y : Value) (t : TypeId) :
    (w.alloc (.cells #[x, y] t)).cell? ⟨w.heap.size, 0, none⟩ = some x ∧ (w.alloc (.cells #[x, y] t)).cell? ⟨w.heap.size, 1, none⟩ = some y ∧ (w.alloc (.cells #[x, y] t)).frozen? ⟨w.heap.size, 1, none⟩ = false := by
  simp

set_option maxHeartbeats 1000000 in
theorem zzLit_some (g n : Nat) (zs : Nat → Int) (p : Nat) (w : World) (hn : n ≤ 1048576) (hp : p ≤ n) (hg : g < w.heap.size)
    (hz : ∀ j, j < n → w.cell? ⟨g, j, none⟩ = some (.int .u8 (zs j))) :
    Calls Try.prog 14 #[.slice (some ⟨g, 0, none⟩) n n, .int .i64 (p : Int)] w fun e w' => ∃ q : Nat, e = .returned (.tuple #[subV g n p q, .int .i64 (q : Int)]) ∧ p ≤ q ∧ q ≤ n ∧ (∀ j, p ≤ j → j < q → ¬ stop (zs j)) ∧ (q < n → stop (zs q)) ∧ Below w.heap.size w w' := by
  obtain ⟨a0, a1, a2⟩ := new_cells w (.slice (some ⟨g, 0, none⟩) n n) (.int .i64 (p : Int)) 33
  have az : ∀ j, j < n → (w.alloc (.cells #[.slice (some ⟨g, 0, none⟩) n n, .int .i64 (p : Int)] 33)).cell? ⟨g, j, none⟩ = some (.int .u8 (zs j)) := fun j hj => by
    rw [World.cell?_alloc_lt (h := hg)]; exact hz j hj
  have c1 := literal_some g n zs w.heap.size p _ hn hp hg a0 a1 a2 az
  clear a0 a1 a2 az hz
  go_enter Try.func14, Try.ntmps14
  go_wp2_with fail
  refine c1.mono ?_
  rintro e w1 ⟨q, rfl, h1, h2, h3, h4, h5, h6⟩
  have H3 : Hid (∀ j, p ≤ j → j < q → ¬ stop (zs j)) := h3
  have H4 : Hid (q < n → stop (zs q)) := h4
  have HB : Hid (Below w.heap.size w w1) := ((Below.refl _ w).alloc (Nat.le_refl _) _).trans h6
  clear c1 h3 h4 h6
  go_wp2_with fail
  go_quiet (fail)
  go_wp2_with fail
  go_ret2
  exact ⟨q, rfl, h1, h2, H3.out, H4.out, below_drews2 HB.out 0 _⟩

theorem q22 : ∀ (w : World) (a : Option Addr) (n c : Nat), (binOp .eql 22 (.slice a n c) (.slice none 0 0)).run Try.prog w = .ok (.bool a.isNone) w :=
  fun w a n c => Lib.run_eql_slice_nil w 22 5 a n c 0 0 Try.underlying22

set_option maxHeartbeats 1000000 in
/-- a slice held against itself -/
theorem same_any (B o m c : Nat) (w : World) (hm : m ≤ 1048576) (hc : ∀ j, j < m → ∃ x : Int, w.cell? ⟨B, o + j, none⟩ = some (.int .u8 x)) :
    Calls Try.prog 11 #[.slice (some ⟨B, o, none⟩) m c, .slice (some ⟨B, o, none⟩) m c] w fun e w' => e = .returned (.bool true) ∧ Drawn w w' := by
  have HC : Hid (∀ j, j < m → ∃ x : Int, w.cell? ⟨B, o + j, none⟩ = some (.int .u8 x)) := hc
  clear hc
  go_enter Try.func11, Try.ntmps11
  go_wp2_with fail
  go_loopw [5] (fun i wr => ∃ k : Nat, k ≤ m ∧ i = .int .i64 k ∧ Hid (Drawn w wr)) (fun i _ => m - (intOf i).toNat)
  case atStart => exact ⟨0, Nat.zero_le _, rfl, Drawn.refl _⟩
  case round =>
    obtain ⟨k, hk, rfl, HD⟩ := hrel
    by_cases hlt : k < m
    · obtain ⟨x, hx⟩ := HC.out k hlt
      rw [← HD.out.cell] at hx
      have hlI : (k : Int) < (m : Int) := by omega
      go_wp2_with fail
      go_quiet (fail)
      go_wp2_with fail
      go_roundw
      case rel => exact ⟨k + 1, by omega, by go_num, HD.out.trans (Drawn.one _ _)⟩
      case measure => simp [intOf]; omega
    · go_wp2_with fail
      go_ret
      exact ⟨rfl, HD.out⟩

theorem same_nil (w : World) :
    Calls Try.prog 11 #[.slice none 0 0, .slice none 0 0] w fun e w' => e = .returned (.bool true) ∧ Drawn w w' := by
  go_enter Try.func11, Try.ntmps11
  go_wp2_with fail
  go_loop [5] (fun i => i = .int .i64 0) (fun _ => 0)
  case atStart => rfl
  case round =>
    subst hrel
    go_wp2_with fail
    go_ret
    exact ⟨rfl, Drawn.refl _⟩

theorem same_sub (g n p q : Nat) (w : World) (hn : n ≤ 1048576) (h1 : p ≤ q) (h2 : q ≤ n) (hc : ∀ j, j < n → ∃ x : Int, w.cell? ⟨g, j, none⟩ = some (.int .u8 x)) :
    Calls Try.prog 11 #[subV g n p q, subV g n p q] w fun e w' => e = .returned (.bool true) ∧ Drawn w w' := by
  unfold subV
  by_cases e : n = p
  · rw [if_pos e]
    exact same_any g 0 (q - p) (n - p) w (by omega) (fun j hj => by omega)
  · rw [if_neg e]
    exact same_any g p (q - p) (n - p) w (by omega) (fun j hj => hc (p + j) (by omega))

end Go.Proofs.Qxb6602054a
