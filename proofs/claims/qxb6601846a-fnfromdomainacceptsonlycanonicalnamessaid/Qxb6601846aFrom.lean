/-
  FromDomain (10): the walk.
-/
import Derived.Test.Qxb6601846aTrim
import Derived.Laws.IdiomStrings
namespace Go.Proofs.Qxb6601846a
open Go.RowKit
set_option linter.unusedVariables false

theorem trim22_known (s t : ByteArray) (h : trimDot s = t) (w : World) (hs : s.size ≤ maxLen) :
    Calls Try.prog 22 #[.string s, .string ⟨#[46]⟩] w fun e w' => e = .returned (.string t) ∧ w' = w := by
  subst h; exact trim22 s w hs

theorem isEmpty_of {S : ByteArray} (h : S.size = 0) : S.toList.isEmpty = true := by
  rw [Lib.toList_data, List.isEmpty_iff_length_eq_zero, ← Lib.size_eq]; exact h
theorem isEmpty_not {S : ByteArray} (h : ¬ S.size = 0) : S.toList.isEmpty = false := by
  rw [Lib.toList_data]
  cases e : S.data.toList.isEmpty
  · rfl
  · rw [List.isEmpty_iff_length_eq_zero, ← Lib.size_eq] at e; exact absurd e h

theorem equalFold_known (a b : ByteArray) (v : Bool) (h : eqf a b = v) (w : World) (ha : a.size ≤ maxLen) (hb : b.size ≤ maxLen) :
    Calls Try.prog 23 #[.string a, .string b] w fun e w' => e = .returned (.bool v) ∧ Drawn w w' := by
  subst h; exact equalFold_any a b w ha hb

set_option maxHeartbeats 2000000 in
theorem from_none (name suffix N S : ByteArray) (hn : name.size ≤ maxLen) (hs : suffix.size ≤ maxLen) (hN : trimDot name = N) (hS : trimDot suffix = S) (h : cutBody N S = none) (w : World) :
    Calls Try.prog 10 #[.string name, .string suffix] w fun e w' => e = .returned (.tuple #[.string ⟨#[]⟩, .bool false]) ∧ Drawn w w' := by
  have z1 : N.size ≤ 9223372036854775807 := by rw [← hN]; exact Nat.le_trans (trimDot_le name) hn
  have z2 : S.size ≤ 9223372036854775807 := by rw [← hS]; exact Nat.le_trans (trimDot_le suffix) hs
  have c1 := fun w => trim22_known name N hN w hn
  have c2 := fun w => trim22_known suffix S hS w hs
  unfold cutBody at h
  by_cases h0 : S.size = 0
  · rw [if_pos h0] at h; cases h
  rw [if_neg h0] at h
  have e0 := isEmpty_not h0
  have p0 : 0 < S.size := by omega
  by_cases h1 : N.size < S.size + 2
  · clear h
    go_enter Try.func10, Try.ntmps10
    go_wp2_with fail
    refine (c1 _).mono ?_
    rintro e w' ⟨rfl, rfl⟩
    go_wp2_with fail
    refine (c2 _).mono ?_
    rintro e w'' ⟨rfl, rfl⟩
    clear c1 c2 hN hS
    go_wp2_with fail
    go_ret2
    exact ⟨rfl, Drawn.refl _⟩
  rw [if_neg h1] at h
  by_cases h2 : gt N (N.size - S.size - 1) = 46
  · rw [if_pos h2] at h
    have h3 : eqf (N.extract (N.size - S.size) N.size) S = false := by
      cases e : eqf (N.extract (N.size - S.size) N.size) S
      · rfl
      · rw [if_pos e] at h; cases h
    clear h
    have i1 : N.size - S.size - 1 < N.size := by omega
    have g1 := gt_at N (N.size - S.size - 1) i1
    rw [h2] at g1
    clear h2
    have g2 : ((N[N.size - S.size - 1].toNat : Int) != 46) = false := by simpa using g1
    clear g1
    have z3 : (N.extract (N.size - S.size) N.size).size ≤ maxLen := by unfold maxLen; simp; omega
    have c3 := fun w => equalFold_known (N.extract (N.size - S.size) N.size) S false h3 w z3 z2
    clear h3 z3
    go_enter Try.func10, Try.ntmps10
    go_wp2_with fail
    refine (c1 _).mono ?_
    rintro e w' ⟨rfl, rfl⟩
    go_wp2_with fail
    refine (c2 _).mono ?_
    rintro e w'' ⟨rfl, rfl⟩
    clear c1 c2 hN hS
    go_wp2_with fail
    refine (c3 _).mono ?_
    rintro e w3 ⟨rfl, d3⟩
    clear c3
    go_wp2_with fail
    go_ret2
    exact ⟨rfl, d3⟩
  · clear h
    have i1 : N.size - S.size - 1 < N.size := by omega
    have g1 := gt_at N (N.size - S.size - 1) i1
    rw [← g1] at h2
    clear g1
    have g2 : ((N[N.size - S.size - 1].toNat : Int) != 46) = true := by simpa using h2
    clear h2
    go_enter Try.func10, Try.ntmps10
    go_wp2_with fail
    refine (c1 _).mono ?_
    rintro e w' ⟨rfl, rfl⟩
    go_wp2_with fail
    refine (c2 _).mono ?_
    rintro e w'' ⟨rfl, rfl⟩
    clear c1 c2 hN hS
    go_wp2_with fail
    go_ret2
    exact ⟨rfl, Drawn.refl _⟩

theorem slice15 (w : World) (a : Addr) (k : Nat) (hk : k < 15) :
    (Instr.sliceAt 33 (.pointer (some a)) none (some (.int .i64 ((k : Int) + 1))) none).run Try.prog w = .ok (.slice (some a) (k + 1) 15) w := by
  have e15 : Try.prog.arrayLen 33 = 15 := by kernel_rfl
  have e5 : Try.prog.elem 33 = 5 := by kernel_rfl
  have ht : Try.prog.underlying 33 = some (.array (Try.prog.arrayLen 33) (Try.prog.elem 33)) := by rw [e15, e5]; exact Try.underlying33
  rw [run_sliceAt_array_h w 33 a ht .i64 ((k : Int) + 1) (by omega) (by rw [e15]; omega), e5, Try.sizeOf5]
  simp [Result.andThen, slicedAt, e15, Addr.add]

/-- the cells of the new digit with those before it -/
theorem cells_step (cs : Array Value) (B : ByteArray) (k : Nat) (hk : k < cs.size) (v : Int) (hv : v = gt B (B.size - 1 - 2 * k)) (hc : ∀ j, j < k → cs[j]? = some (.int .u8 (gt B (B.size - 1 - 2 * j)))) :
    ∀ j, j < k + 1 → (cs.setIfInBounds k (.int .u8 v))[j]? = some (.int .u8 (gt B (B.size - 1 - 2 * j))) := by
  intro j hj
  rw [Array.getElem?_setIfInBounds]
  by_cases e : k = j
  · subst e; rw [if_pos rfl, if_pos hk, hv]
  · rw [if_neg e]; exact hc j (by omega)

theorem addr_add (b j : Nat) : (⟨b, 0, none⟩ : Addr).add j = ⟨b, j, none⟩ := by
  unfold Addr.add
  by_cases h : j = 0
  · subst h; rfl
  · simp [h]

/-- 'string(..)' of cells that hold the digits -/
theorem conv_digits (dst : TypeId) (hd : Try.prog.underlying dst = some .string) (w : World) (cs : Array Value) (t : TypeId) (B : ByteArray) (n cap : Nat) (hc : ∀ j, j < n → cs[j]? = some (.int .u8 (gt B (B.size - 1 - 2 * j)))) :
    (convert 35 dst (.slice (some ⟨w.heap.size, 0, none⟩) n cap)).run Try.prog (w.alloc (.cells cs t)) = .ok (.string ⟨(digL B n).toArray⟩) (w.alloc (.cells cs t)) := by
  have := run_convert_bytes_back (P := Try.prog) (w.alloc (.cells cs t)) 35 dst 5 ⟨w.heap.size, 0, none⟩ cap (digL B n) Try.underlying35 Try.underlying5 hd (fun j hj => by
    have hj' : j < n := by rw [digL_length] at hj; exact hj
    rw [digL_at B n j hj]
    have := World.cell?_alloc_mark w cs t (0, 0) j
    rw [addr_add, this]
    exact hc j hj')
  rw [digL_length] at this
  exact this

theorem digs_of {B : ByteArray} {k : Nat} (h : B.size = 2 * k + 1) : (⟨(digL B (k + 1)).toArray⟩ : ByteArray) = digs B := by
  unfold digs; rw [show (B.size + 1) / 2 = k + 1 by omega]

theorem ret_two {a b : ByteArray} {x y : Bool} (h : a = b) (g : x = y) : Ending.returned (.tuple #[.string a, .bool x]) = .returned (.tuple #[.string b, .bool y]) := by rw [h, g]
theorem ans_bad {B : ByteArray} (h : ¬ okBody B) : Ending.returned (.tuple #[.string ⟨#[]⟩, .bool false]) = .returned (.tuple #[.string (ansNum (some B)), .bool (okB B)]) :=
  ret_two (by unfold ansNum; simp [okB_false h]) (okB_false h).symm
theorem ans_good {B : ByteArray} (h : okBody B) : Ending.returned (.tuple #[.string (digs B), .bool true]) = .returned (.tuple #[.string (ansNum (some B)), .bool (okB B)]) :=
  ret_two (by unfold ansNum; simp [okB_true h]) (okB_true h).symm

set_option maxHeartbeats 4000000 in
/-- under no suffix -/
theorem from_root (name suffix N S : ByteArray) (hn : name.size ≤ maxLen) (hs : suffix.size ≤ maxLen) (hN : trimDot name = N) (hS : trimDot suffix = S) (h0 : S.size = 0) (hb : name.size ≤ 2097152) (w : World) :
    Calls Try.prog 10 #[.string name, .string suffix] w fun e w' => e = .returned (.tuple #[.string (ansNum (some N)), .bool (okB N)]) ∧ Grown w w' := by
  have z1 : N.size ≤ 9223372036854775807 := by rw [← hN]; exact Nat.le_trans (trimDot_le name) hn
  have z2 : S.size ≤ 9223372036854775807 := by rw [← hS]; exact Nat.le_trans (trimDot_le suffix) hs
  have zN : N.size ≤ 2097152 := by rw [← hN]; exact Nat.le_trans (trimDot_le name) hb
  have c1 := fun w => trim22_known name N hN w hn
  have c2 := fun w => trim22_known suffix S hS w hs
  have e0 := isEmpty_of h0
  clear h0
  go_enter Try.func10, Try.ntmps10
  go_wp2_with fail
  refine (c1 _).mono ?_
  rintro e w' ⟨rfl, rfl⟩
  go_wp2_with fail
  refine (c2 _).mono ?_
  rintro e w'' ⟨rfl, rfl⟩
  clear c1 c2 hN hS
  go_wp2_with fail
  go_loopw [6, 9] (fun L n wr => ∃ (T : ByteArray) (k : Nat) (cs : Array Value), L = .string T ∧ n = .int .i64 k ∧ k ≤ 15 ∧ T.size ≤ 2097152 ∧ cs.size = 15 ∧ wr = w''.alloc (.cells cs 33) ∧ Hid (Left N T k) ∧ Hid (∀ j, j < k → cs[j]? = some (.int .u8 (gt N (N.size - 1 - 2 * j))))) (fun _ n _ => 16 - (intOf n).toNat)
  case atStart => exact ⟨N, 0, _, rfl, rfl, by omega, zN, rfl, rfl, Left.start N, fun j hj => by omega⟩
  case round =>
    obtain ⟨T, k, cs, rfl, rfl, hk, hT, hcs, rfl, HL, HC⟩ := hrel
    go_wp2_with fail
    refine (last24 T _ (by omega)).mono ?_
    rintro e w4 ⟨p, rfl, hl, rfl⟩
    have hp : p ≤ T.size := hl.1
    have HLD : Hid (LastDot T p) := hl
    clear hl
    by_cases hlen : T.size - p = 1
    · have hpl : p < T.size := by omega
      have HE : Hid (T.size - p = 1) := hlen
      have hD : 0 < (T.extract p T.size).size := by simp; omega
      have HG : Hid (((T.extract p T.size)[0].toNat : Int) = gt T p) := by
        show _ = _
        rw [gt_at _ 0 hD, gt_extract T p T.size 0 (Nat.le_refl _) (by omega), Nat.add_zero]
      have hl1 : (((T.size - p : Nat) : Int) != 1) = false := by rw [hlen]; rfl
      by_cases h48 : (48 : Int) ≤ ((T.extract p T.size)[0].toNat : Int)
      · by_cases h57 : ((T.extract p T.size)[0].toNat : Int) ≤ 57
        · have HDG : Hid (48 ≤ gt T p ∧ gt T p ≤ 57) := by show _ ∧ _; rw [← HG.out]; exact ⟨h48, h57⟩
          by_cases h15 : k = 15
          · have h15' : ((k : Int) == 15) = true := by simp; omega
            have HB : Hid (¬ okBody N) := HL.out.too_long hlen h15
            clear hlen h15
            go_wp2_with fail
            go_ret2
            exact ⟨ans_bad HB.out, (Grown.refl _).alloc _ _⟩
          · have hk15 : k < 15 := by omega
            have h15' : ((k : Int) == 15) = false := by simp; omega
            obtain ⟨v0, hv0⟩ : ∃ v, cs[k]? = some v := ⟨_, Array.getElem?_eq_getElem (by omega)⟩
            have HV : Hid (∀ j, j < k + 1 → (cs.setIfInBounds k (.int .u8 ((T.extract p T.size)[0].toNat : Int)))[j]? = some (.int .u8 (gt N (N.size - 1 - 2 * j)))) := cells_step cs N k (by omega) _ (by rw [HG.out]; exact HL.out.last_digit hlen) HC.out
            clear hlen
            by_cases hp0 : p < 1
            · have hsl := fun w a => slice15 w a k hk15
              have hcv := conv_digits 23 Try.underlying23 w'' _ 33 N (k + 1) 15 HV.out
              have HO : Hid (okBody N) := HL.out.done (by have := HE.out; omega) (by omega) (by have := HDG.out; rwa [show p = 0 by omega] at this)
              have HZ : Hid (N.size = 2 * k + 1) := by show _ = _; have := HL.out.1; have := HE.out; omega
              go_wp2_with fail
              go_ret2
              exact ⟨by rw [digs_of HZ.out]; exact ans_good HO.out, (Grown.refl _).alloc _ _⟩
            · have HN : Hid (Left N (T.extract 0 (p - 1)) (k + 1)) := HL.out.next HLD.out HE.out (by omega) (by omega) HDG.out
              have hsz : (T.extract 0 (p - 1)).size ≤ 2097152 := by simp; omega
              go_wp2_with fail
              go_roundw
              case rel => exact ⟨T.extract 0 (p - 1), k + 1, _, rfl, by go_num, by omega, hsz, by simp [hcs], rfl, HN.out, HV.out⟩
              case measure => simp [intOf]; omega
        · have HB : Hid (¬ okBody N) := HL.out.bad_digit hlen (by rw [← HG.out]; omega)
          clear hlen
          go_wp2_with fail
          go_ret2
          exact ⟨ans_bad HB.out, (Grown.refl _).alloc _ _⟩
      · have HB : Hid (¬ okBody N) := HL.out.bad_digit hlen (by rw [← HG.out]; omega)
        clear hlen
        go_wp2_with fail
        go_ret2
        exact ⟨ans_bad HB.out, (Grown.refl _).alloc _ _⟩
    · have HB : Hid (¬ okBody N) := HL.out.bad_label HLD.out hlen
      have hl1 : (((T.size - p : Nat) : Int) != 1) = true := by simp; omega
      clear hlen
      go_wp2_with fail
      go_ret2
      exact ⟨ans_bad HB.out, (Grown.refl _).alloc _ _⟩

set_option maxHeartbeats 4000000 in
/-- below a suffix -/
theorem from_below (name suffix N S B : ByteArray) (hn : name.size ≤ maxLen) (hs : suffix.size ≤ maxLen) (hN : trimDot name = N) (hS : trimDot suffix = S) (h0 : ¬ S.size = 0) (h1 : ¬ N.size < S.size + 2) (h2 : gt N (N.size - S.size - 1) = 46) (h3 : eqf (N.extract (N.size - S.size) N.size) S = true) (hB : N.extract 0 (N.size - S.size - 1) = B) (hb : name.size ≤ 2097152) (w : World) :
    Calls Try.prog 10 #[.string name, .string suffix] w fun e w' => e = .returned (.tuple #[.string (ansNum (some B)), .bool (okB B)]) ∧ Grown w w' := by
  have z1 : N.size ≤ 9223372036854775807 := by rw [← hN]; exact Nat.le_trans (trimDot_le name) hn
  have z2 : S.size ≤ 9223372036854775807 := by rw [← hS]; exact Nat.le_trans (trimDot_le suffix) hs
  have zN : N.size ≤ 2097152 := by rw [← hN]; exact Nat.le_trans (trimDot_le name) hb
  have c1 := fun w => trim22_known name N hN w hn
  have c2 := fun w => trim22_known suffix S hS w hs
  have HX : Hid (N.extract 0 (N.size - S.size - 1) = B) := hB
  clear hB
  have e0 := isEmpty_not h0
  have p0 : 0 < S.size := by omega
  clear h0
  have i1 : N.size - S.size - 1 < N.size := by omega
  have g1 := gt_at N (N.size - S.size - 1) i1
  rw [h2] at g1
  clear h2
  have g2 : ((N[N.size - S.size - 1].toNat : Int) != 46) = false := by simpa using g1
  clear g1
  have z3 : (N.extract (N.size - S.size) N.size).size ≤ maxLen := by unfold maxLen; simp; omega
  have c3 := fun w => equalFold_known (N.extract (N.size - S.size) N.size) S true h3 w z3 z2
  clear h3 z3
  go_enter Try.func10, Try.ntmps10
  go_wp2_with fail
  refine (c1 _).mono ?_
  rintro e w' ⟨rfl, rfl⟩
  go_wp2_with fail
  refine (c2 _).mono ?_
  rintro e w'' ⟨rfl, rfl⟩
  clear c1 c2 hN hS
  go_wp2_with fail
  refine (c3 _).mono ?_
  rintro e w3 ⟨rfl, d3⟩
  clear c3
  go_wp2_with fail
  go_loopw [6, 9] (fun L n wr => ∃ (T : ByteArray) (k : Nat) (cs : Array Value), L = .string T ∧ n = .int .i64 k ∧ k ≤ 15 ∧ T.size ≤ 2097152 ∧ cs.size = 15 ∧ wr = w3.alloc (.cells cs 33) ∧ Hid (Left B T k) ∧ Hid (∀ j, j < k → cs[j]? = some (.int .u8 (gt B (B.size - 1 - 2 * j))))) (fun _ n _ => 16 - (intOf n).toNat)
  case atStart => exact ⟨N.extract 0 (N.size - S.size - 1), 0, _, rfl, rfl, by omega, by simp; omega, rfl, rfl, by rw [HX.out]; exact Left.start B, fun j hj => by omega⟩
  case round =>
    obtain ⟨T, k, cs, rfl, rfl, hk, hT, hcs, rfl, HL, HC⟩ := hrel
    go_wp2_with fail
    refine (last24 T _ (by omega)).mono ?_
    rintro e w4 ⟨p, rfl, hl, rfl⟩
    have hp : p ≤ T.size := hl.1
    have HLD : Hid (LastDot T p) := hl
    clear hl
    by_cases hlen : T.size - p = 1
    · have hpl : p < T.size := by omega
      have HE : Hid (T.size - p = 1) := hlen
      have hD : 0 < (T.extract p T.size).size := by simp; omega
      have HG : Hid (((T.extract p T.size)[0].toNat : Int) = gt T p) := by
        show _ = _
        rw [gt_at _ 0 hD, gt_extract T p T.size 0 (Nat.le_refl _) (by omega), Nat.add_zero]
      have hl1 : (((T.size - p : Nat) : Int) != 1) = false := by rw [hlen]; rfl
      by_cases h48 : (48 : Int) ≤ ((T.extract p T.size)[0].toNat : Int)
      · by_cases h57 : ((T.extract p T.size)[0].toNat : Int) ≤ 57
        · have HDG : Hid (48 ≤ gt T p ∧ gt T p ≤ 57) := by show _ ∧ _; rw [← HG.out]; exact ⟨h48, h57⟩
          by_cases h15 : k = 15
          · have h15' : ((k : Int) == 15) = true := by simp; omega
            have HB : Hid (¬ okBody B) := HL.out.too_long hlen h15
            clear hlen h15
            go_wp2_with fail
            go_ret2
            exact ⟨ans_bad HB.out, d3.grown.alloc _ _⟩
          · have hk15 : k < 15 := by omega
            have h15' : ((k : Int) == 15) = false := by simp; omega
            obtain ⟨v0, hv0⟩ : ∃ v, cs[k]? = some v := ⟨_, Array.getElem?_eq_getElem (by omega)⟩
            have HV : Hid (∀ j, j < k + 1 → (cs.setIfInBounds k (.int .u8 ((T.extract p T.size)[0].toNat : Int)))[j]? = some (.int .u8 (gt B (B.size - 1 - 2 * j)))) := cells_step cs B k (by omega) _ (by rw [HG.out]; exact HL.out.last_digit hlen) HC.out
            clear hlen
            by_cases hp0 : p < 1
            · have hsl := fun w a => slice15 w a k hk15
              have hcv := conv_digits 23 Try.underlying23 w3 _ 33 B (k + 1) 15 HV.out
              have HO : Hid (okBody B) := HL.out.done (by have := HE.out; omega) (by omega) (by have := HDG.out; rwa [show p = 0 by omega] at this)
              have HZ : Hid (B.size = 2 * k + 1) := by show _ = _; have := HL.out.1; have := HE.out; omega
              go_wp2_with fail
              go_ret2
              exact ⟨by rw [digs_of HZ.out]; exact ans_good HO.out, d3.grown.alloc _ _⟩
            · have HN : Hid (Left B (T.extract 0 (p - 1)) (k + 1)) := HL.out.next HLD.out HE.out (by omega) (by omega) HDG.out
              have hsz : (T.extract 0 (p - 1)).size ≤ 2097152 := by simp; omega
              go_wp2_with fail
              go_roundw
              case rel => exact ⟨T.extract 0 (p - 1), k + 1, _, rfl, by go_num, by omega, hsz, by simp [hcs], rfl, HN.out, HV.out⟩
              case measure => simp [intOf]; omega
        · have HB : Hid (¬ okBody B) := HL.out.bad_digit hlen (by rw [← HG.out]; omega)
          clear hlen
          go_wp2_with fail
          go_ret2
          exact ⟨ans_bad HB.out, d3.grown.alloc _ _⟩
      · have HB : Hid (¬ okBody B) := HL.out.bad_digit hlen (by rw [← HG.out]; omega)
        clear hlen
        go_wp2_with fail
        go_ret2
        exact ⟨ans_bad HB.out, d3.grown.alloc _ _⟩
    · have HB : Hid (¬ okBody B) := HL.out.bad_label HLD.out hlen
      have hl1 : (((T.size - p : Nat) : Int) != 1) = true := by simp; omega
      clear hlen
      go_wp2_with fail
      go_ret2
      exact ⟨ans_bad HB.out, d3.grown.alloc _ _⟩

theorem fromDomain_any (name suffix : ByteArray) (hn : name.size ≤ 2097152) (hs : suffix.size ≤ maxLen) (w : World) :
    Calls Try.prog 10 #[.string name, .string suffix] w fun e w' => e = .returned (.tuple #[.string (fdNum name suffix), .bool (fdOk name suffix)]) ∧ Grown w w' := by
  have hn' : name.size ≤ maxLen := by unfold maxLen; omega
  unfold fdNum fdOk
  cases h : cutBody (trimDot name) (trimDot suffix) with
  | none => exact (from_none name suffix _ _ hn' hs rfl rfl h w).mono fun e w' ⟨he, hd⟩ => ⟨he, hd.grown⟩
  | some B =>
    unfold cutBody at h
    by_cases h0 : (trimDot suffix).size = 0
    · rw [if_pos h0] at h
      obtain rfl := Option.some.inj h
      exact from_root name suffix _ _ hn' hs rfl rfl h0 hn w
    · rw [if_neg h0] at h
      by_cases h1 : (trimDot name).size < (trimDot suffix).size + 2
      · rw [if_pos h1] at h; cases h
      · rw [if_neg h1] at h
        by_cases h2 : gt (trimDot name) ((trimDot name).size - (trimDot suffix).size - 1) = 46
        · rw [if_pos h2] at h
          by_cases h3 : eqf ((trimDot name).extract ((trimDot name).size - (trimDot suffix).size) (trimDot name).size) (trimDot suffix) = true
          · rw [if_pos h3] at h
            exact from_below name suffix _ _ B hn' hs rfl rfl h0 h1 h2 h3 (Option.some.inj h) hn w
          · rw [if_neg h3] at h; cases h
        · rw [if_neg h2] at h; cases h

end Go.Proofs.Qxb6601846a
