/-
  lowerASCII (30), equalFoldASCII (23), ZZequalFoldASCII (20): each computes a plain function.
-/
import Derived.Test.Qxb6601846aProg
import Derived.WalkKit
import Derived.Deep.QuietTactic
import Derived.BigQuiet
import Derived.ProofKit
namespace Go.Proofs.Qxb6601846a
open Go.RowKit
set_option linter.unusedVariables false

theorem ret_int {k : IntKind} {a b : Int} (h : a = b) : Ending.returned (.int k a) = .returned (.int k b) := by rw [h]
theorem ret_bool {a b : Bool} (h : a = b) : Ending.returned (.bool a) = .returned (.bool b) := by rw [h]

/-- 'w'' is 'w' after some draws -/
def Drawn (w w' : World) : Prop := ∃ n, w' = w.drewN n
theorem Drawn.refl (w : World) : Drawn w w := ⟨0, rfl⟩
theorem Drawn.trans {a b c : World} (h : Drawn a b) (g : Drawn b c) : Drawn a c := by
  obtain ⟨n, rfl⟩ := h
  obtain ⟨m, rfl⟩ := g
  exact ⟨n + m, by rw [World.drewN_drewN]⟩
theorem Drawn.one (w : World) (n : Nat) : Drawn w (w.drewN n) := ⟨n, rfl⟩

theorem Drawn.grown {w w' : World} (h : Drawn w w') : Grown w w' := by
  obtain ⟨n, rfl⟩ := h
  exact Grown.refl w

/-- a byte in lower case, as a number -/
def low (c : Int) : Int := if 65 ≤ c ∧ c ≤ 90 then c + 32 else c
/-- a byte in lower case -/
def lowB (c : UInt8) : Int := low (c.toNat : Int)

theorem lower_any (c : Int) (w : World) (h0 : 0 ≤ c) (h1 : c ≤ 255) :
    Calls Try.prog 30 #[.int .u8 c] w fun e w' => e = .returned (.int .u8 (low c)) ∧ w' = w := by
  by_cases ha : 65 ≤ c
  · by_cases hz : c ≤ 90
    · go_enter Try.func30, Try.ntmps30
      go_wp2
      go_ret
      exact ⟨ret_int (by unfold low; rw [if_pos ⟨ha, hz⟩]; omega), rfl⟩
    · go_enter Try.func30, Try.ntmps30
      go_wp2
      go_ret
      exact ⟨ret_int (by unfold low; rw [if_neg (by omega)]), rfl⟩
  · go_enter Try.func30, Try.ntmps30
    go_wp2
    go_ret
    exact ⟨ret_int (by unfold low; rw [if_neg (by omega)]), rfl⟩

/-- two texts alike when each byte is taken in lower case -/
def eqf (a b : ByteArray) : Bool := decide (a.data.toList.map lowB = b.data.toList.map lowB)

theorem take_snoc (s : ByteArray) (k : Nat) (h : k < s.size) : s.data.toList.take (k + 1) = s.data.toList.take k ++ [s[k]] := by
  rw [List.take_succ_eq_append_getElem (by simpa using h)]; rfl

theorem eqf_size {a b : ByteArray} (h : ¬ a.size = b.size) : eqf a b = false := by
  unfold eqf
  rw [decide_eq_false_iff_not]
  intro e
  have := congrArg List.length e
  simp at this
  exact h this

theorem eqf_at {a b : ByteArray} (k : Nat) (ha : k < a.size) (hb : k < b.size) (h : ¬ lowB a[k] = lowB b[k]) : eqf a b = false := by
  unfold eqf
  rw [decide_eq_false_iff_not]
  intro e
  have e1 : (a.data.toList.map lowB)[k]? = (b.data.toList.map lowB)[k]? := by rw [e]
  rw [List.getElem?_map, List.getElem?_map, List.getElem?_eq_getElem (by simpa using ha), List.getElem?_eq_getElem (by simpa using hb)] at e1
  simp only [Option.map_some, Option.some.injEq] at e1
  exact h e1

theorem eqf_all {a b : ByteArray} (hs : a.size = b.size) (k : Nat) (hk : ¬ k < a.size) (h : (a.data.toList.take k).map lowB = (b.data.toList.take k).map lowB) : eqf a b = true := by
  unfold eqf
  rw [decide_eq_true_iff]
  rwa [List.take_of_length_le (by simp; omega), List.take_of_length_le (by simp; omega)] at h

theorem snoc_eq {a b : ByteArray} (k : Nat) (ha : k < a.size) (hb : k < b.size) (h : (a.data.toList.take k).map lowB = (b.data.toList.take k).map lowB) (hc : lowB a[k] = lowB b[k]) :
    (a.data.toList.take (k + 1)).map lowB = (b.data.toList.take (k + 1)).map lowB := by
  rw [take_snoc a k ha, take_snoc b k hb]; simp [h, hc]

theorem byte_bd (c : UInt8) : 0 ≤ (c.toNat : Int) ∧ (c.toNat : Int) ≤ 255 := by
  have := UInt8.toNat_lt c; omega

set_option maxHeartbeats 400000 in
theorem equalFold_any (a b : ByteArray) (w : World) (ha : a.size ≤ maxLen) (hb : b.size ≤ maxLen) :
    Calls Try.prog 23 #[.string a, .string b] w fun e w' => e = .returned (.bool (eqf a b)) ∧ Drawn w w' := by
  unfold maxLen at ha hb
  by_cases hs : a.size = b.size
  · have hs' : ((a.size : Int) != (b.size : Int)) = false := by simp [hs]
    have HS : Hid (a.size = b.size) := hs
    clear hs
    go_enter Try.func23, Try.ntmps23
    go_wp2
    go_loopw [5] (fun i wr => ∃ k : Nat, k ≤ a.size ∧ i = .int .i64 k ∧ Hid (Drawn w wr) ∧ Hid ((a.data.toList.take k).map lowB = (b.data.toList.take k).map lowB)) (fun i _ => a.size - (intOf i).toNat)
    case atStart => exact ⟨0, Nat.zero_le _, rfl, Drawn.refl w, rfl⟩
    case round =>
      obtain ⟨k, hk, rfl, HD, HP⟩ := hrel
      by_cases hlt : k < a.size
      · have hlb : k < b.size := by rw [← HS.out]; exact hlt
        have b1 := byte_bd a[k]
        have b2 := byte_bd b[k]
        go_wp2
        go_quiet ((go_at_call 30; exact Calls.quiet_of_same (lower_any _ _ (by omega) (by omega))))
        by_cases hc : low (a[k].toNat : Int) = low (b[k].toNat : Int)
        · have hc' : (low (a[k].toNat : Int) != low (b[k].toNat : Int)) = false := by simp [hc]
          have HC : Hid (lowB a[k] = lowB b[k]) := hc
          clear hc
          go_wp2
          go_roundw
          case rel => exact ⟨k + 1, by omega, by go_num, HD.out.trans (Drawn.one _ _), snoc_eq k hlt hlb HP.out HC.out⟩
          case measure => simp [intOf]; omega
        · have hc' : (low (a[k].toNat : Int) != low (b[k].toNat : Int)) = true := by simp [hc]
          have HC : Hid (¬ lowB a[k] = lowB b[k]) := hc
          clear hc
          go_wp2
          go_ret
          exact ⟨ret_bool (eqf_at k hlt hlb HC.out).symm, HD.out.trans (Drawn.one _ _)⟩
      · go_wp2
        go_ret
        exact ⟨ret_bool (eqf_all HS.out k hlt HP.out).symm, HD.out⟩
  · have hs' : ((a.size : Int) != (b.size : Int)) = true := by simp; omega
    go_enter Try.func23, Try.ntmps23
    go_wp2
    go_ret
    exact ⟨ret_bool (eqf_size hs).symm, Drawn.refl w⟩

theorem zzEqualFold_any (a b : ByteArray) (w : World) (ha : a.size ≤ maxLen) (hb : b.size ≤ maxLen) :
    Calls Try.prog 20 #[.string a, .string b] w fun e w' => e = .returned (.bool (eqf a b)) ∧ Drawn w w' := by
  go_enter Try.func20, Try.ntmps20
  go_wp2_with (go_at_call 23; refine (equalFold_any _ _ _ ha hb).mono ?_; rintro e w' ⟨rfl, hd⟩)
  go_ret
  exact ⟨rfl, hd⟩

end Go.Proofs.Qxb6601846a
