/-
  zzJtB1Clone (9); literal (18) and ZZLiteral (14) at a nil slice: by contracts.
-/
import Derived.Test.Qxb6602054aParts
namespace Go.Proofs.Qxb6602054a
open Go.RowKit
set_option linter.unusedVariables false

theorem nil_sub (w : World) :
    (Instr.slice 22 (.slice none 0 0) (some (.int .i64 0)) (some (.int .i64 0)) none).run Try.prog w = .ok (.slice none 0 0) w := by
  have e5 : Try.prog.elem 22 = 5 := by kernel_rfl
  have ht : Try.prog.underlying 22 = some (.slice (Try.prog.elem 22)) := by rw [e5]; exact Try.underlying22
  rw [run_slice_lh w 22 none 0 0 ht .i64 .i64 0 0 (by omega) (by omega) (by omega), e5, Try.sizeOf5]
  simp [Result.andThen, sliced]

set_option maxHeartbeats 1000000 in
theorem literal_nil (b : Nat) (w : World) (h0 : w.cell? ⟨b, 0, none⟩ = some (.slice none 0 0)) (h1 : w.cell? ⟨b, 1, none⟩ = some (.int .i64 0)) :
    Calls Try.prog 18 #[.pointer (some ⟨b, 0, none⟩)] w fun e w' => e = .returned (.slice none 0 0) ∧ Drawn w w' := by
  have hsl := nil_sub
  have Q0 : Hid (w.cell? ⟨b, 0, none⟩ = some (.slice none 0 0)) := h0
  have Q1 : Hid (w.cell? ⟨b, 1, none⟩ = some (.int .i64 0)) := h1
  go_enter Try.func18, Try.ntmps18
  go_wp2_with fail
  clear h0 h1
  go_loopw [] (fun wr => Hid (Drawn w wr)) (fun _ => 0)
  case atStart => exact Drawn.refl _
  case round =>
    have HD : Hid (Drawn w wr) := hrel
    clear hrel
    have q0 : wr.cell? ⟨b, 0, none⟩ = some (.slice none 0 0) := by rw [HD.out.cell]; exact Q0.out
    have q1 : wr.cell? ⟨b, 1, none⟩ = some (.int .i64 0) := by rw [HD.out.cell]; exact Q1.out
    clear Q0 Q1
    go_wp2_with fail
    go_quiet (fail)
    go_wp2_with fail
    go_quiet (fail)
    go_wp2_with fail
    go_ret
    exact ⟨rfl, (HD.out.trans (Drawn.one _ _)).trans (Drawn.one _ _)⟩

set_option maxHeartbeats 1000000 in
theorem zzLit_nil (w : World) :
    Calls Try.prog 14 #[.slice none 0 0, .int .i64 0] w fun e w' => e = .returned (.tuple #[.slice none 0 0, .int .i64 0]) ∧ Below w.heap.size w w' := by
  obtain ⟨a0, a1, a2⟩ := new_cells w (.slice none 0 0) (.int .i64 0) 33
  have c1 := literal_nil w.heap.size _ a0 a1
  have A1 : Hid ((w.alloc (.cells #[.slice none 0 0, .int .i64 0] 33)).cell? ⟨w.heap.size, 1, none⟩ = some (.int .i64 0)) := a1
  clear a0 a1 a2
  go_enter Try.func14, Try.ntmps14
  go_wp2_with fail
  refine c1.mono ?_
  rintro e w1 ⟨rfl, d1⟩
  have r1 : w1.cell? ⟨w.heap.size, 1, none⟩ = some (.int .i64 0) := by rw [d1.cell]; exact A1.out
  have HB : Hid (Below w.heap.size w w1) := ((Below.refl _ w).alloc (Nat.le_refl _) _).trans (d1.below _)
  clear c1 d1 A1
  go_wp2_with fail
  go_quiet (fail)
  go_wp2_with fail
  go_ret2
  exact ⟨rfl, below_drews2 HB.out 0 _⟩

theorem info5 : (Try.prog.info? 5).map (fun i => (i.zero, i.size, i.bytes)) = some (some (.int .u8 0), 1, 1) := by kernel_rfl

theorem make_bytes (n : Nat) (h : n ≤ 281474976710656) (w : World) :
    (Instr.makeSlice 22 (.int .i64 (n : Int)) (.int .i64 (n : Int))).run Try.prog w = .ok (.slice (some ⟨w.heap.size, 0, none⟩) n n) (w.alloc (.cells (madeCells #[.int .u8 0] n) 5)) :=
  run_make_row' (P := Try.prog) 22 5 (.int .u8 0) 1 Try.underlying22 info5 rfl .i64 .i64 n (by omega) (by omega) w
theorem size_made (z : Array Value) (n : Nat) : (madeCells z n).size = n := by simp [madeCells]

theorem clone_nil (w : World) :
    Calls Try.prog 9 #[.slice none 0 0] w fun e w' => e = .returned (.slice none 0 0) ∧ w' = w := by
  have hq := q22
  go_enter Try.func9, Try.ntmps9
  go_wp2_with fail
  go_ret
  exact ⟨rfl, rfl⟩

theorem cells_put (cs : Array Value) (zs : Nat → Int) (k : Nat) (hk : k < cs.size) (hc : ∀ j, j < k → cs[j]? = some (.int .u8 (zs j))) :
    ∀ j, j < k + 1 → (cs.setIfInBounds k (.int .u8 (zs k)))[j]? = some (.int .u8 (zs j)) := by
  intro j hj
  rw [Array.getElem?_setIfInBounds]
  by_cases e : k = j
  · subst e; rw [if_pos rfl, if_pos hk]
  · rw [if_neg e]; exact hc j (by omega)

/-- the copy: a row of its own at the heap's end -/
structure Copy (n : Nat) (zs : Nat → Int) (w w' : World) : Prop where
  below : Below w.heap.size w w'
  size : w.heap.size < w'.heap.size
  cell : ∀ j, j < n → w'.cell? ⟨w.heap.size, j, none⟩ = some (.int .u8 (zs j))

theorem Copy.mk' {n : Nat} {zs : Nat → Int} {w : World} {cs : Array Value} (h : ∀ j, j < n → cs[j]? = some (.int .u8 (zs j))) : Copy n zs w (w.alloc (.cells cs 5)) :=
  ⟨(Below.refl _ w).alloc (Nat.le_refl _) _, by simp, fun j hj => by rw [World.cell?_alloc_mark w cs 5 (0, 0) j]; exact h j hj⟩

set_option maxHeartbeats 1000000 in
theorem clone_zero (x : Addr) (c : Nat) (zs : Nat → Int) (w : World) :
    Calls Try.prog 9 #[.slice (some x) 0 c] w fun e w' => e = .returned (.slice (some ⟨w.heap.size, 0, none⟩) 0 0) ∧ Copy 0 zs w w' := by
  have hq := q22
  have hmk : ∀ w : World, (Instr.makeSlice 22 (.int .i64 0) (.int .i64 0)).run Try.prog w = .ok (.slice (some ⟨w.heap.size, 0, none⟩) 0 0) (w.alloc (.cells (madeCells #[.int .u8 0] 0) 5)) := fun w => make_bytes 0 (by omega) w
  go_enter Try.func9, Try.ntmps9
  go_wp2_with fail
  clear hq hmk
  go_loop [4] (fun i => i = .int .i64 0) (fun _ => 0)
  case atStart => rfl
  case round =>
    subst hrel
    go_wp2_with fail
    go_ret
    exact ⟨rfl, Copy.mk' (fun j hj => by omega)⟩

set_option maxHeartbeats 1000000 in
theorem clone_pos (xb xo n c : Nat) (zs : Nat → Int) (w : World) (hn : n ≤ 1048576) (hx : xb < w.heap.size) (hz : ∀ j, j < n → w.cell? ⟨xb, xo + j, none⟩ = some (.int .u8 (zs j))) :
    Calls Try.prog 9 #[.slice (some ⟨xb, xo, none⟩) n c] w fun e w' => e = .returned (.slice (some ⟨w.heap.size, 0, none⟩) n n) ∧ Copy n zs w w' := by
  have hq := q22
  have hmk := fun w => make_bytes n (by omega) w
  have HZ : Hid (∀ j, j < n → w.cell? ⟨xb, xo + j, none⟩ = some (.int .u8 (zs j))) := hz
  clear hz
  go_enter Try.func9, Try.ntmps9
  go_wp2_with fail
  clear hq hmk
  go_loopw [4] (fun i wr => ∃ (k : Nat) (cs : Array Value), k ≤ n ∧ i = .int .i64 k ∧ cs.size = n ∧ wr = w.alloc (.cells cs 5) ∧ Hid (∀ j, j < k → cs[j]? = some (.int .u8 (zs j)))) (fun i _ => n - (intOf i).toNat)
  case atStart => exact ⟨0, _, Nat.zero_le _, rfl, size_made _ _, rfl, fun j hj => by omega⟩
  case round =>
    obtain ⟨k, cs, hk, rfl, hcs, rfl, HC⟩ := hrel
    by_cases hlt : k < n
    · obtain ⟨u, hu⟩ : ∃ u, zs k = u := ⟨_, rfl⟩
      have hcell : w.cell? ⟨xb, xo + k, none⟩ = some (.int .u8 u) := by rw [← hu]; exact HZ.out k hlt
      have hcell2 : (w.alloc (.cells cs 5)).cell? ⟨xb, xo + k, none⟩ = some (.int .u8 u) := by rw [World.cell?_alloc_lt (h := hx)]; exact hcell
      obtain ⟨v0, hv0⟩ : ∃ v, cs[k]? = some v := ⟨_, Array.getElem?_eq_getElem (by omega)⟩
      have HV : Hid (∀ j, j < k + 1 → (cs.setIfInBounds k (.int .u8 u))[j]? = some (.int .u8 (zs j))) := by
        rw [← hu]; exact cells_put cs zs k (by omega) HC.out
      have hlI : (k : Int) < (n : Int) := by omega
      clear hu
      go_wp2_with fail
      go_roundw
      case rel => exact ⟨k + 1, _, by omega, by go_num, by simp [hcs], rfl, HV.out⟩
      case measure => simp [intOf]; omega
    · go_wp2_with fail
      go_ret
      exact ⟨rfl, Copy.mk' (fun j hj => HC.out j (by omega))⟩

end Go.Proofs.Qxb6602054a
