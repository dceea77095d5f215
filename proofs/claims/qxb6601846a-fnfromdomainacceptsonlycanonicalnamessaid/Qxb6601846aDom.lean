/-
  (Number).Domain (16): the walk, over the builder's contracts.
-/
import Derived.Test.Qxb6601846aShelfB
import Derived.Test.Qxb6601846aPlain
import Derived.Test.Qxb6601846aFold
namespace Go.Proofs.Qxb6601846a
open Go.RowKit
set_option linter.unusedVariables false

/-- the bytes of n from its end down to place k, a dot behind each -/
def acc (n : ByteArray) (k : Nat) : List UInt8 := (n.data.toList.drop k).reverse.flatMap fun c => [c, 46]

theorem acc_end (n : ByteArray) : acc n n.size = [] := by
  unfold acc; rw [List.drop_of_length_le (by simp)]; rfl

theorem acc_step (n : ByteArray) (k : Nat) (h : k < n.size) : acc n k = acc n (k + 1) ++ [n[k], 46] := by
  unfold acc
  rw [List.drop_eq_getElem_cons (by simpa using h)]
  simp
  rfl

theorem flat_length : ∀ l : List UInt8, (l.flatMap fun c => [c, (46 : UInt8)]).length = 2 * l.length
  | [] => rfl
  | c :: l => by simp only [List.flatMap_cons, List.length_append, flat_length l, List.length_cons, List.length_nil]; omega

theorem acc_length (n : ByteArray) (k : Nat) : (acc n k).length = 2 * (n.size - k) := by
  unfold acc; rw [flat_length]; simp

/-- the domain name of n under s -/
def domL (n s : ByteArray) : List UInt8 := acc n 0 ++ (if s.toList = [46] then [] else s.data.toList)
def domain (n s : ByteArray) : ByteArray := ⟨(domL n s).toArray⟩

theorem grow25 (B b : Nat) (n s : ByteArray) (w : World) (hB : B ≤ b) (hbk : w.heap[b]? = some (.cells #[.pointer none, .slice none 0 0] 38 (0, 0))) (hBw : B ≤ w.heap.size) (hn : n.size ≤ 2097152) (hs : s.size ≤ 2097152) :
    Calls Try.prog 25 #[.pointer (some ⟨b, 0, none⟩), .int .i64 (2 * (n.size : Int) + (s.size : Int))] w fun e w' => e = .returned (.tuple #[]) ∧ Lib.IsBuilder 38 5 B b [] w' ∧ Below B w w' := by
  have := Try.Builder_Grow_fresh B b (2 * n.size + s.size) w hB hbk hBw (by omega)
  rw [show ((2 * n.size + s.size : Nat) : Int) = 2 * (n.size : Int) + (s.size : Int) by omega] at this
  exact this.mono fun e w' ⟨he, hb, hbel⟩ => ⟨he, .inr hb, hbel⟩

theorem wbyte (B b : Nat) (l : List UInt8) (c : UInt8) (w : World) (h : Lib.IsBuilder 38 5 B b (Lib.byteCells l) w) (hl : l.length ≤ 4194304) (hBw : B ≤ w.heap.size) :
    Calls Try.prog 26 #[.pointer (some ⟨b, 0, none⟩), .int .u8 (c.toNat : Int)] w fun e w' => e = .returned .nilIface ∧ Lib.IsBuilder 38 5 B b (Lib.byteCells (l ++ [c])) w' ∧ Below B w w' := by
  refine (Try.Builder_WriteByte B b (Lib.byteCells l) (c.toNat : Int) w h (by rw [Lib.byteCells_length]; omega) hBw).mono fun e w' ⟨he, hb, hbel⟩ => ⟨he, .inr ?_, hbel⟩
  rw [Lib.byteCells_append]; exact hb

theorem wstr (B b : Nat) (l : List UInt8) (s : ByteArray) (w : World) (h : Lib.IsBuilder 38 5 B b (Lib.byteCells l) w) (hl : l.length ≤ 4194304) (hs : s.size ≤ 2097152) (hBw : B ≤ w.heap.size) :
    Calls Try.prog 27 #[.pointer (some ⟨b, 0, none⟩), .string s] w fun e w' => e = .returned (.tuple #[.int .i64 s.size, .nilIface]) ∧ Lib.IsBuilder 38 5 B b (Lib.byteCells (l ++ s.data.toList)) w' ∧ Below B w w' := by
  refine (Try.Builder_WriteString B b (Lib.byteCells l) s w h (by rw [Lib.byteCells_length]; omega) hBw).mono fun e w' ⟨he, hb, hbel⟩ => ⟨he, .inr ?_, hbel⟩
  rw [Lib.byteCells_append]; exact hb

theorem ret_dom {n s : ByteArray} {l : List UInt8} (h : domL n s = l) : Ending.returned (.string ⟨l.toArray⟩) = .returned (.string (domain n s)) := by
  unfold domain; rw [h]

set_option maxHeartbeats 2000000 in
theorem domain_any (n s : ByteArray) (w : World) (hn : n.size ≤ 2097152) (hs : s.size ≤ 2097152) :
    Calls Try.prog 16 #[.string n, .string s] w fun e w' => e = .returned (.string (domain n s)) ∧ Below w.heap.size w w' := by
  have hbk : (w.alloc (.cells #[.pointer none, .slice none 0 0] 38)).heap[w.heap.size]? = some (.cells #[.pointer none, .slice none 0 0] 38 (0, 0)) := by
    show (w.heap.push _)[w.heap.size]? = _
    simp
  have hsz : w.heap.size ≤ (w.alloc (.cells #[.pointer none, .slice none 0 0] 38)).heap.size := by
    show _ ≤ (w.heap.push _).size
    simp
  have c1 := grow25 w.heap.size w.heap.size n s _ (Nat.le_refl _) hbk hsz hn hs
  go_enter Try.func16, Try.ntmps16
  go_wp2_with fail
  refine c1.mono ?_
  clear c1 hbk
  rintro e w1 ⟨rfl, hI, hb1⟩
  have HI : Hid (Lib.IsBuilder 38 5 w.heap.size w.heap.size (Lib.byteCells []) w1) := hI
  have HB : Hid (Below w.heap.size w w1) := ((Below.refl _ w).alloc (Nat.le_refl _) _).trans hb1
  have hz1 : w.heap.size ≤ w1.heap.size := HB.out.size
  clear hI hb1 hsz
  go_wp2_with fail
  go_loopw [6] (fun i wr => ∃ k : Nat, k ≤ n.size ∧ i = .int .i64 ((k : Int) - 1) ∧ w.heap.size ≤ wr.heap.size ∧ Hid (Lib.IsBuilder 38 5 w.heap.size w.heap.size (Lib.byteCells (acc n k)) wr) ∧ Hid (Below w.heap.size w wr)) (fun i _ => (intOf i + 1).toNat)
  case atStart => exact ⟨n.size, Nat.le_refl _, rfl, hz1, by rw [acc_end]; exact HI.out, HB.out⟩
  case round =>
    clear HI HB hz1
    obtain ⟨k, hk, rfl, hz, HI, HB⟩ := hrel
    have hl := acc_length n k
    have hl' : (acc n k).length ≤ 4194304 := by omega
    clear hl
    by_cases h1 : 1 ≤ k
    · have hk1 : k - 1 < n.size := by omega
      have hl2 : (acc n k ++ [n[k - 1]]).length ≤ 4194304 := by have := acc_length n k; simp; omega
      have hst : Hid (acc n k ++ [n[k - 1]] ++ [46] = acc n (k - 1)) := by
        show _ = _
        have := acc_step n (k - 1) hk1
        rw [show k - 1 + 1 = k by omega] at this
        rw [this]; simp
      go_wp2_with fail
      refine (wbyte _ _ _ n[k - 1] _ HI.out hl' hz).mono ?_
      rintro e w2 ⟨rfl, hI2, hb2⟩
      have HI2 : Hid (Lib.IsBuilder 38 5 w.heap.size w.heap.size (Lib.byteCells (acc n k ++ [n[k - 1]])) w2) := hI2
      have HB2 : Hid (Below w.heap.size w w2) := HB.out.trans hb2
      have hz2 : w.heap.size ≤ w2.heap.size := HB2.out.size
      clear hI2 hb2 HI HB hz
      go_wp2_with fail
      refine (wbyte _ _ _ 46 _ HI2.out hl2 hz2).mono ?_
      rintro e w3 ⟨rfl, hI3, hb3⟩
      have HI3 : Hid (Lib.IsBuilder 38 5 w.heap.size w.heap.size (Lib.byteCells (acc n (k - 1))) w3) := by rw [hst.out] at hI3; exact hI3
      have HB3 : Hid (Below w.heap.size w w3) := HB2.out.trans hb3
      have hz3 : w.heap.size ≤ w3.heap.size := HB3.out.size
      clear hI3 hb3 HI2 HB2 hz2
      go_wp2_with fail
      go_roundw
      case rel => exact ⟨k - 1, by omega, by go_num, hz3, HI3.out, HB3.out⟩
      case measure => simp [intOf]; omega
    · have hk0 : k = 0 := by omega
      have HI0 : Hid (Lib.IsBuilder 38 5 w.heap.size w.heap.size (Lib.byteCells (acc n 0)) wr) := by rw [← hk0]; exact HI.out
      have hl0 : (acc n 0).length ≤ 4194304 := by rw [← hk0]; exact hl'
      clear hk0 HI hl'
      cases hd : (s.toList == [46])
      · have HD : Hid (domL n s = acc n 0 ++ s.data.toList) := by
          show _ = _
          unfold domL; rw [if_neg (by intro e; rw [e] at hd; simp at hd)]
        go_wp2_with fail
        refine (wstr _ _ _ s _ HI0.out hl0 hs hz).mono ?_
        rintro e w2 ⟨rfl, hI2, hb2⟩
        have HB2 : Hid (Below w.heap.size w w2) := HB.out.trans hb2
        have c3 := Try.Builder_String_any _ _ _ _ hI2 HB2.out.size
        clear hI2 hb2 HI0 HB hz
        go_wp2_with fail
        refine c3.mono ?_
        rintro e w3 ⟨rfl, hb3⟩
        clear c3
        go_wp2_with fail
        go_ret
        exact ⟨ret_dom HD.out, HB2.out.trans hb3⟩
      · have HD : Hid (domL n s = acc n 0) := by
          show _ = _
          unfold domL; rw [if_pos (by simpa using hd)]; simp
        have c3 := Try.Builder_String_any _ _ _ _ HI0.out HB.out.size
        go_wp2_with fail
        refine c3.mono ?_
        rintro e w3 ⟨rfl, hb3⟩
        clear c3
        go_wp2_with fail
        go_ret
        exact ⟨ret_dom HD.out, HB.out.trans hb3⟩

end Go.Proofs.Qxb6601846a
