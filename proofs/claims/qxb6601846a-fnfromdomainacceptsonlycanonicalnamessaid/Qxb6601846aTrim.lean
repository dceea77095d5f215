/-
  trimOneDot (15), strings.TrimSuffix(s, a dot) (22), strings.LastIndexByte(s, a dot) (24); what FromDomain answers, as plain functions.
-/
import Derived.Test.Qxb6601846aShelfA
import Derived.Test.Qxb6601846aPlain
import Derived.Test.Qxb6601846aFold
namespace Go.Proofs.Qxb6601846a
open Go.RowKit
set_option linter.unusedVariables false

theorem ret_str {a b : ByteArray} (h : a = b) : Ending.returned (.string a) = .returned (.string b) := by rw [h]

theorem trim22 (s : ByteArray) (w : World) (hs : s.size ≤ maxLen) :
    Calls Try.prog 22 #[.string s, .string ⟨#[46]⟩] w fun e w' => e = .returned (.string (trimDot s)) ∧ w' = w := by
  rw [← trim_lib s]
  exact Try.strings_TrimSuffix s ⟨#[46]⟩ w hs

theorem last24 (s : ByteArray) (w : World) (hs : s.size < 4611686018427387904) :
    Calls Try.prog 24 #[.string s, .int .u8 46] w fun e w' => ∃ p : Nat, e = .returned (.int .i64 ((p : Int) - 1)) ∧ LastDot s p ∧ w' = w := by
  obtain ⟨p, hp, hl⟩ := lastDot_of s
  exact (Try.strings_LastIndexByte s 46 hs w).mono fun e w' ⟨he, hw⟩ => ⟨p, by rw [he, hp], hl, hw⟩

theorem trimOne_any (s : ByteArray) (w : World) (hs : s.size ≤ maxLen) :
    Calls Try.prog 15 #[.string s] w fun e w' => e = .returned (.string (trimDot s)) ∧ w' = w := by
  unfold maxLen at hs
  by_cases h0 : 0 < s.size
  · have hg := gt_at s (s.size - 1) (by omega)
    have HG : Hid ((s[s.size - 1].toNat : Int) = gt s (s.size - 1)) := hg
    clear hg
    by_cases hd : (s[s.size - 1].toNat : Int) = 46
    · have hd' : ((s[s.size - 1].toNat : Int) == 46) = true := by simpa using hd
      have HD : Hid ((s[s.size - 1].toNat : Int) = 46) := hd
      clear hd
      go_enter Try.func15, Try.ntmps15
      go_wp2
      go_ret
      exact ⟨ret_str (by unfold trimDot; rw [if_pos ⟨h0, by rw [← HG.out, HD.out]⟩]), rfl⟩
    · have hd' : ((s[s.size - 1].toNat : Int) == 46) = false := by simpa using hd
      have HD : Hid (¬ (s[s.size - 1].toNat : Int) = 46) := hd
      clear hd
      go_enter Try.func15, Try.ntmps15
      go_wp2
      go_ret
      exact ⟨ret_str (by unfold trimDot; rw [if_neg (by rw [← HG.out]; exact fun h => HD.out h.2)]), rfl⟩
  · have h0' : decide (0 < (s.size : Int)) = false := decide_eq_false (by omega)
    go_enter Try.func15, Try.ntmps15
    go_wp2
    go_ret
    exact ⟨ret_str (by unfold trimDot; rw [if_neg (by omega)]), rfl⟩

/-- the part of the name ahead of the suffix; none where the name does not lie below it (both trimmed) -/
def cutBody (N S : ByteArray) : Option ByteArray :=
  if S.size = 0 then some N
  else if N.size < S.size + 2 then none
  else if gt N (N.size - S.size - 1) = 46 then
    if eqf (N.extract (N.size - S.size) N.size) S = true then some (N.extract 0 (N.size - S.size - 1)) else none
  else none

def ansOk (o : Option ByteArray) : Bool := match o with | none => false | some B => okB B
def ansNum (o : Option ByteArray) : ByteArray := match o with | none => ⟨#[]⟩ | some B => if okB B = true then digs B else ⟨#[]⟩

/-- FromDomain's two answers -/
def fdOk (name suffix : ByteArray) : Bool := ansOk (cutBody (trimDot name) (trimDot suffix))
def fdNum (name suffix : ByteArray) : ByteArray := ansNum (cutBody (trimDot name) (trimDot suffix))

end Go.Proofs.Qxb6601846a
