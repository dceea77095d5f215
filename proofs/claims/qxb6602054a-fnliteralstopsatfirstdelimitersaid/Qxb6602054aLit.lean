/-
  (*reader).literal (18), zzJtB1IsStop (15): by contracts.
-/
import Derived.Test.Qxb6602054aProg
import Derived.WalkKit
import Derived.ProofKit
import Derived.Deep.QuietTactic
import Derived.BigQuiet
namespace Go.Proofs.Qxb6602054a
open Go.RowKit
set_option linter.unusedVariables false

/-- the bytes that end a literal -/
def stop (c : Int) : Prop := c = 44 ∨ c = 125 ∨ c = 93 ∨ c = 32 ∨ c = 9 ∨ c = 13 ∨ c = 10

theorem stop_no {c : Int} (h : ¬ stop c) : (c == 44) = false ∧ (c == 125) = false ∧ (c == 93) = false ∧ (c == 32) = false ∧ (c == 9) = false ∧ (c == 13) = false ∧ (c == 10) = false := by
  unfold stop at h
  simp; omega

theorem isStop_yes (c : Int) (h : stop c) (w : World) :
    Calls Try.prog 15 #[.int .u8 c] w fun e w' => e = .returned (.bool true) ∧ w' = w := by
  rcases h with rfl | rfl | rfl | rfl | rfl | rfl | rfl
  all_goals
    go_enter Try.func15, Try.ntmps15
    go_wp2
    go_ret
    exact ⟨rfl, rfl⟩

theorem isStop_no (c : Int) (h : ¬ stop c) (w : World) :
    Calls Try.prog 15 #[.int .u8 c] w fun e w' => e = .returned (.bool false) ∧ w' = w := by
  obtain ⟨h1, h2, h3, h4, h5, h6, h7⟩ := stop_no h
  clear h
  go_enter Try.func15, Try.ntmps15
  go_wp2
  go_ret
  exact ⟨rfl, rfl⟩

/-- js[p:q] of a row of n bytes at the head of block g -/
def subV (g n p q : Nat) : Value := .slice (some (if n = p then ⟨g, 0, none⟩ else ⟨g, p, none⟩)) (q - p) (n - p)

theorem sub_run (g n p q : Nat) (h1 : p ≤ q) (h2 : q ≤ n) (w : World) :
    (Instr.slice 22 (.slice (some ⟨g, 0, none⟩) n n) (some (.int .i64 (p : Int))) (some (.int .i64 (q : Int))) none).run Try.prog w = .ok (subV g n p q) w := by
  have e5 : Try.prog.elem 22 = 5 := by kernel_rfl
  have ht : Try.prog.underlying 22 = some (.slice (Try.prog.elem 22)) := by rw [e5]; exact Try.underlying22
  rw [run_slice_lh w 22 (some ⟨g, 0, none⟩) n n ht .i64 .i64 p q (by omega) (by omega) (by omega), e5, Try.sizeOf5]
  simp [Result.andThen, sliced, subV, Addr.add]
  by_cases e : n = p
  · simp [e]
  · by_cases e0 : p = 0
    · simp [e0]
    · simp [e, e0]

theorem below_drews {B : Nat} {a w : World} (h : Below B a w) (i j k : Nat) : Below B a (((w.drewN i).drewN j).drewN k) := ⟨h.os, h.tape, h.output, h.size, h.block⟩
theorem below_drews2 {B : Nat} {a w : World} (h : Below B a w) (i j : Nat) : Below B a ((w.drewN i).drewN j) := ⟨h.os, h.tape, h.output, h.size, h.block⟩

theorem pushed {b m : Nat} {x y v : Value} {w wr : World} (q0 : wr.cell? ⟨b, 0, none⟩ = some x) (q1 : wr.cell? ⟨b, 1, none⟩ = some y) (qf : wr.frozen? ⟨b, 1, none⟩ = false) (HB : Below b w wr) :
    ((wr.drewN m).setCell ⟨b, 1, none⟩ v).cell? ⟨b, 0, none⟩ = some x ∧ ((wr.drewN m).setCell ⟨b, 1, none⟩ v).cell? ⟨b, 1, none⟩ = some v ∧ ((wr.drewN m).setCell ⟨b, 1, none⟩ v).frozen? ⟨b, 1, none⟩ = false ∧ Below b w ((wr.drewN m).setCell ⟨b, 1, none⟩ v) := by
  have hb : Below b w (wr.drewN m) := ⟨HB.os, HB.tape, HB.output, HB.size, HB.block⟩
  refine ⟨?_, ?_, ?_, hb.setCell (Nat.le_refl _) _⟩
  · rw [World.cell?_setCell_other (wr.drewN m) (a := ⟨b, 1, none⟩) (b := ⟨b, 0, none⟩) (v := v) (by simp)]; exact q0
  · exact World.cell?_setCell_same (wr.drewN m) _ _ (u := y) q1
  · rw [World.frozen?_setCell]; exact qf

set_option maxHeartbeats 2000000 in
theorem literal_some (g n : Nat) (zs : Nat → Int) (b p : Nat) (w : World) (hn : n ≤ 1048576) (hp : p ≤ n) (hgb : g < b)
    (h0 : w.cell? ⟨b, 0, none⟩ = some (.slice (some ⟨g, 0, none⟩) n n)) (h1 : w.cell? ⟨b, 1, none⟩ = some (.int .i64 (p : Int))) (hf : w.frozen? ⟨b, 1, none⟩ = false)
    (hz : ∀ j, j < n → w.cell? ⟨g, j, none⟩ = some (.int .u8 (zs j))) :
    Calls Try.prog 18 #[.pointer (some ⟨b, 0, none⟩)] w fun e w' => ∃ q : Nat, e = .returned (subV g n p q) ∧ p ≤ q ∧ q ≤ n ∧ (∀ j, p ≤ j → j < q → ¬ stop (zs j)) ∧ (q < n → stop (zs q)) ∧ w'.cell? ⟨b, 1, none⟩ = some (.int .i64 (q : Int)) ∧ Below b w w' := by
  have HZ : Hid (∀ j, j < n → w.cell? ⟨g, j, none⟩ = some (.int .u8 (zs j))) := hz
  clear hz
  have Q0 : Hid (w.cell? ⟨b, 0, none⟩ = some (.slice (some ⟨g, 0, none⟩) n n)) := h0
  have Q1 : Hid (w.cell? ⟨b, 1, none⟩ = some (.int .i64 (p : Int))) := h1
  have QF : Hid (w.frozen? ⟨b, 1, none⟩ = false) := hf
  go_enter Try.func18, Try.ntmps18
  go_wp2_with fail
  clear h0 h1 hf
  go_loopw [] (fun wr => ∃ k : Nat, p ≤ k ∧ k ≤ n ∧ wr.cell? ⟨b, 0, none⟩ = some (.slice (some ⟨g, 0, none⟩) n n) ∧ wr.cell? ⟨b, 1, none⟩ = some (.int .i64 (k : Int)) ∧ wr.frozen? ⟨b, 1, none⟩ = false ∧ Hid (Below b w wr) ∧ Hid (∀ j, p ≤ j → j < k → ¬ stop (zs j))) (fun wr => n - (intOf ((wr.cell? ⟨b, 1, none⟩).getD undef)).toNat)
  case atStart => exact ⟨p, Nat.le_refl _, hp, Q0.out, Q1.out, QF.out, Below.refl _ _, fun j h1 h2 => by omega⟩
  case round =>
    clear Q0 Q1 QF
    obtain ⟨k, hpk, hk, q0, q1, qf, HB, HS⟩ := hrel
    by_cases hlt : k < n
    · have hlI : (k : Int) < (n : Int) := by omega
      obtain ⟨c, hc⟩ : ∃ c, zs k = c := ⟨_, rfl⟩
      have qc : wr.cell? ⟨g, k, none⟩ = some (.int .u8 c) := by rw [HB.out.cell (p := ⟨g, k, none⟩) hgb, HZ.out k hlt, hc]
      have HCC : Hid (zs k = c) := hc
      clear hc
      by_cases hst : stop c
      · have HT : Hid (stop (zs k)) := by rw [HCC.out]; exact hst
        have hsl := fun w => sub_run g n p k hpk hk w
        rcases hst with rfl | rfl | rfl | rfl | rfl | rfl | rfl
        all_goals
          go_wp2_with fail
          go_quiet (fail)
          go_wp2_with fail
          go_quiet (fail)
          go_wp2_with fail
          go_quiet (fail)
          go_wp2_with fail
          go_ret
          exact ⟨k, rfl, hpk, hk, HS.out, fun _ => HT.out, q1, below_drews2 HB.out _ _⟩
      · have HT : Hid (∀ j, p ≤ j → j < k + 1 → ¬ stop (zs j)) := by
          intro j h1 h2
          by_cases e : j = k
          · subst e; rw [HCC.out]; exact hst
          · exact HS.out j h1 (by omega)
        obtain ⟨s1, s2, s3, s4, s5, s6, s7⟩ := stop_no hst
        clear hst
        go_wp2_with fail
        go_quiet (fail)
        go_wp2_with fail
        go_quiet (fail)
        go_wp2_with fail
        go_roundw
        case rel =>
          obtain ⟨r0, r1, r2, r3⟩ := pushed q0 q1 qf HB.out
          exact ⟨k + 1, by omega, by omega, r0, r1, r2, r3, HT.out⟩
        case measure =>
          rw [(pushed q0 q1 qf HB.out).2.1, q1]
          simp [intOf]; omega
    · have hsl := fun w => sub_run g n p k hpk hk w
      go_wp2_with fail
      go_quiet (fail)
      go_wp2_with fail
      go_quiet (fail)
      go_wp2_with fail
      go_ret
      exact ⟨k, rfl, hpk, hk, HS.out, fun h => by omega, q1, below_drews2 HB.out _ _⟩

end Go.Proofs.Qxb6602054a
