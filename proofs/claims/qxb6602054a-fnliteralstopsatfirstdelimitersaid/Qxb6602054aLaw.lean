/-
  FnLiteralStopsAtFirstDelimiter (5): the walk. zzBytes (13).
-/
import Derived.Test.Qxb6602054aClone
import Derived.OpenShut
namespace Go.Proofs.Qxb6602054a
open Go.RowKit
set_option linter.unusedVariables false

theorem zz13_yes (a : Option Addr) (n c : Nat) (p : Int) (w : World) (h : n ≤ 1048576) :
    Calls Try.prog 13 #[.slice a n c, .int .i64 p] w fun e w' => e = .returned (.bool true) ∧ w' = w := by
  go_enter Try.func13, Try.ntmps13
  go_wp2
  go_ret
  exact ⟨rfl, rfl⟩

theorem zz13_no (a : Option Addr) (n c : Nat) (p : Int) (w : World) (h : ¬ n ≤ 1048576) :
    Calls Try.prog 13 #[.slice a n c, .int .i64 p] w fun e w' => e = .returned (.bool false) ∧ w' = w := by
  go_enter Try.func13, Try.ntmps13
  go_wp2
  go_ret
  exact ⟨rfl, rfl⟩

theorem clone_row (x : Addr) (n c : Nat) (zs : Nat → Int) (w : World) (hn : n ≤ 1048576) (hz : ∀ j, j < n → w.cell? (x.add j) = some (.int .u8 (zs j))) :
    Calls Try.prog 9 #[.slice (some x) n c] w fun e w' => e = .returned (.slice (some ⟨w.heap.size, 0, none⟩) n n) ∧ Copy n zs w w' := by
  by_cases h0 : n = 0
  · subst h0; exact clone_zero x c zs w
  · obtain ⟨xb, xo, sp⟩ := x
    have hsp : sp = none := by simpa [Addr.add] using World.cell?_spot (hz 0 (by omega))
    subst hsp
    have hz' : ∀ j, j < n → w.cell? ⟨xb, xo + j, none⟩ = some (.int .u8 (zs j)) := fun j hj => by
      have := hz j hj
      unfold Addr.add at this
      by_cases e : j = 0
      · subst e; simpa using this
      · simpa [e] using this
    have hx : xb < w.heap.size := by
      have := hz' 0 (by omega)
      rcases Nat.lt_or_ge xb w.heap.size with h | h
      · exact h
      · rw [World.cell?] at this
        simp [Array.getElem?_eq_none h] at this
    exact clone_pos xb xo n c zs w hn hx hz'

set_option maxHeartbeats 2000000 in
theorem law_nil (pos : Int) (w : World) :
    Calls Try.prog 5 #[.slice none 0 0, .int .i64 pos] w fun e w' => e = .returned (.bool true) ∧ Below w.heap.size w w' := by
  have hz := fun w => zz13_yes none 0 0 pos w (by omega)
  by_cases h1 : pos < 0
  · go_enter Try.func5, Try.ntmps5
    go_wp2_with (go_at_call 13; refine (hz _).mono ?_; rintro e w' ⟨rfl, rfl⟩)
    go_ret
    exact ⟨rfl, Below.refl _ _⟩
  · by_cases h2 : 0 < pos
    · have h1' : decide (pos < 0) = false := decide_eq_false h1
      go_enter Try.func5, Try.ntmps5
      go_wp2_with (go_at_call 13; refine (hz _).mono ?_; rintro e w' ⟨rfl, rfl⟩)
      go_ret
      exact ⟨rfl, Below.refl _ _⟩
    · obtain rfl : pos = 0 := by omega
      clear h1 h2
      have hsl := nil_sub
      go_enter Try.func5, Try.ntmps5
      go_wp2_with (go_at_call 13; refine (hz _).mono ?_; rintro e w' ⟨rfl, rfl⟩)
      refine (clone_nil _).mono ?_
      rintro e w1 ⟨rfl, hw1⟩
      obtain rfl := hw1.symm
      clear hz
      go_wp2_with fail
      refine (zzLit_nil _).mono ?_
      rintro e w2 ⟨rfl, b2⟩
      have HB : Hid (Below w'.heap.size w' w2) := b2
      clear b2
      go_wp2_with fail
      refine (same_nil _).mono ?_
      rintro e w3 ⟨rfl, d3⟩
      have HB3 : Hid (Below w'.heap.size w' w3) := HB.out.trans (d3.below _)
      clear d3 HB
      go_wp2_with fail
      go_loop [7] (fun i => i = .int .i64 0) (fun _ => 0)
      case atStart => rfl
      case round =>
        subst hrel
        go_wp2_with fail
        go_ret
        exact ⟨rfl, HB3.out⟩

set_option maxHeartbeats 2000000 in
theorem law_row (x : Addr) (n c : Nat) (zs : Nat → Int) (pos : Int) (w : World) (hz : ∀ j, j < n → w.cell? (x.add j) = some (.int .u8 (zs j))) :
    Calls Try.prog 5 #[.slice (some x) n c, .int .i64 pos] w fun e w' => e = .returned (.bool true) ∧ Below w.heap.size w w' := by
  by_cases hn : n ≤ 1048576
  · have hy := fun w => zz13_yes (some x) n c pos w hn
    by_cases h1 : pos < 0
    · go_enter Try.func5, Try.ntmps5
      go_wp2_with (go_at_call 13; refine (hy _).mono ?_; rintro e w' ⟨rfl, rfl⟩)
      go_ret
      exact ⟨rfl, Below.refl _ _⟩
    · by_cases h2 : (n : Int) < pos
      · have h1' : decide (pos < 0) = false := decide_eq_false h1
        go_enter Try.func5, Try.ntmps5
        go_wp2_with (go_at_call 13; refine (hy _).mono ?_; rintro e w' ⟨rfl, rfl⟩)
        go_ret
        exact ⟨rfl, Below.refl _ _⟩
      · obtain ⟨p, rfl⟩ : ∃ p : Nat, pos = (p : Int) := ⟨pos.toNat, by omega⟩
        have hp : p ≤ n := by omega
        clear h1 h2
        have c1 := clone_row x n c zs w hn hz
        clear hz
        go_enter Try.func5, Try.ntmps5
        go_wp2_with (go_at_call 13; refine (hy _).mono ?_; rintro e w' ⟨rfl, hw'⟩; obtain rfl := hw'.symm)
        refine c1.mono ?_
        rintro e w1 ⟨rfl, k1⟩
        have K1 : Hid (Copy n zs w w1) := k1
        clear c1 k1 hy
        go_wp2_with fail
        refine (zzLit_some w.heap.size n zs p _ hn hp K1.out.size K1.out.cell).mono ?_
        rintro e w2 ⟨q, rfl, hpq, hqn, s1, s2, b2⟩
        have S1 : Hid (∀ j, p ≤ j → j < q → ¬ stop (zs j)) := s1
        have S2 : Hid (q < n → stop (zs q)) := s2
        have B2 : Hid (Below w.heap.size w w2) := K1.out.below.trans (b2.mono (Nat.le_of_lt K1.out.size))
        have Z2 : Hid (∀ j, j < n → w2.cell? ⟨w.heap.size, j, none⟩ = some (.int .u8 (zs j))) := fun j hj => by
          rw [b2.cell (p := ⟨w.heap.size, j, none⟩) K1.out.size]; exact K1.out.cell j hj
        clear s1 s2 b2 K1
        have hsl := fun w' => sub_run w.heap.size n p q hpq hqn w'
        have d1 : decide (q < p) = false := decide_eq_false (by omega)
        have d2 : decide (n < q) = false := decide_eq_false (by omega)
        go_wp2_with fail
        refine (same_sub w.heap.size n p q _ hn hpq hqn (fun j hj => ⟨_, Z2.out j hj⟩)).mono ?_
        rintro e w3 ⟨rfl, d3⟩
        have B3 : Hid (Below w.heap.size w w3) := B2.out.trans (d3.below _)
        have Z3 : Hid (∀ j, j < n → w3.cell? ⟨w.heap.size, j, none⟩ = some (.int .u8 (zs j))) := fun j hj => by
          rw [d3.cell]; exact Z2.out j hj
        clear d3 B2 Z2 hsl
        go_wp2_with fail
        go_loopw [7] (fun i wr => ∃ k : Nat, p ≤ k ∧ k ≤ q ∧ i = .int .i64 k ∧ Hid (wr = w3)) (fun i _ => q - (intOf i).toNat)
        case atStart => exact ⟨p, Nat.le_refl _, hpq, rfl, rfl⟩
        case round =>
          obtain ⟨k, hpk, hkq, rfl, HW⟩ := hrel
          by_cases hlt : k < q
          · have hkn : k < n := by omega
            have hlI : (k : Int) < (n : Int) := by omega
            have qc : wr.cell? ⟨w.heap.size, k, none⟩ = some (.int .u8 (zs k)) := by rw [HW.out]; exact Z3.out k hkn
            have c2 := fun w => isStop_no (zs k) (S1.out k hpk hlt) w
            go_wp2_with fail
            refine (c2 _).mono ?_
            rintro e w4 ⟨rfl, hw4⟩
            have HW4 : Hid (w4 = w3) := hw4.trans HW.out
            clear hw4 c2 qc
            go_wp2_with fail
            go_roundw
            case rel => exact ⟨k + 1, by omega, by omega, by go_num, HW4.out⟩
            case measure => simp [intOf]; omega
          · by_cases hqn2 : q < n
            · have hlI : (q : Int) < (n : Int) := by omega
              have qc : wr.cell? ⟨w.heap.size, q, none⟩ = some (.int .u8 (zs q)) := by rw [HW.out]; exact Z3.out q hqn2
              have c2 := fun w => isStop_yes (zs q) (S2.out hqn2) w
              go_wp2_with fail
              refine (c2 _).mono ?_
              rintro e w4 ⟨rfl, hw4⟩
              have HW4 : Hid (w4 = w3) := hw4.trans HW.out
              clear hw4 c2 qc
              go_wp2_with fail
              go_ret
              exact ⟨rfl, by rw [HW4.out]; exact B3.out⟩
            · have hd : decide ((q : Int) < (n : Int)) = false := decide_eq_false (by omega)
              have hd' : decide (q < n) = false := decide_eq_false (by omega)
              go_wp2_with fail
              go_ret
              exact ⟨rfl, by rw [HW.out]; exact B3.out⟩
  · go_enter Try.func5, Try.ntmps5
    go_wp2_with (go_at_call 13; refine (zz13_no (some x) n c pos _ hn).mono ?_; rintro e w' ⟨rfl, rfl⟩)
    go_ret
    exact ⟨rfl, Below.refl _ _⟩

end Go.Proofs.Qxb6602054a
