/-
  Words (9): the walk.
-/
import Derived.Test.Qxb6602053aGram
namespace Go.Proofs.Qxb6602053a
open Go.RowKit
set_option linter.unusedVariables false

/-- where the word at hand began, as Go holds it -/
def stI : Option Nat → Int
  | none => -1
  | some a => (a : Int)

/-- the machine's words from a state of the loop on -/
def more (E : Int) (s : ByteArray) (st : Option Nat) (q : Int) (k : Nat) : List (Nat × Nat) := mm E s.size false st q k (D s k)

theorem slice_from (s : ByteArray) (a : Nat) (h : a ≤ s.size) (w : World) :
    (Instr.slice 9 (.string s) (some (.int .i64 (a : Int))) none none).run Try.prog w = .ok (.string (s.extract a s.size)) w := by
  rw [run_slice_string_l (P := Try.prog) w 9 s Try.underlying9 .i64 a (by omega) (by omega)]
  simp

section
variable {E q : Int} {s : ByteArray} {k a : Nat} {st : Option Nat} (hk : k < s.size)
theorem more_blank_none (h : q = 0 ∧ ((s[k].toNat : Int) = 32 ∨ (s[k].toNat : Int) = 9)) : more E s none q k = more E s none 0 (k + 1) := by
  unfold more; rw [D_cons s k hk, mm_blank_none h]
theorem more_blank_some (h : q = 0 ∧ ((s[k].toNat : Int) = 32 ∨ (s[k].toNat : Int) = 9)) : more E s (some a) q k = (a, k) :: more E s none 0 (k + 1) := by
  unfold more; rw [D_cons s k hk, mm_blank_some h]
theorem more_esc (h : ¬ (q = 0 ∧ ((s[k].toNat : Int) = 32 ∨ (s[k].toNat : Int) = 9))) (g : (s[k].toNat : Int) = E ∧ ¬ q = 39) : more E s st q k = more E s (some (st.getD k)) q (k + 2) := by
  unfold more; rw [D_cons s k hk, mm_esc h g, mm_skip]
theorem more_open (h : ¬ (q = 0 ∧ ((s[k].toNat : Int) = 32 ∨ (s[k].toNat : Int) = 9))) (g : ¬ ((s[k].toNat : Int) = E ∧ ¬ q = 39)) (o : q = 0 ∧ ((s[k].toNat : Int) = 39 ∨ (s[k].toNat : Int) = 34)) :
    more E s st q k = more E s (some (st.getD k)) (s[k].toNat : Int) (k + 1) := by
  unfold more; rw [D_cons s k hk, mm_open h g o]
theorem more_shut (h : ¬ (q = 0 ∧ ((s[k].toNat : Int) = 32 ∨ (s[k].toNat : Int) = 9))) (g : ¬ ((s[k].toNat : Int) = E ∧ ¬ q = 39)) (o : ¬ (q = 0 ∧ ((s[k].toNat : Int) = 39 ∨ (s[k].toNat : Int) = 34))) (m : (s[k].toNat : Int) = q) :
    more E s st q k = more E s (some (st.getD k)) 0 (k + 1) := by
  unfold more; rw [D_cons s k hk, mm_shut h g o m]
theorem more_plain (h : ¬ (q = 0 ∧ ((s[k].toNat : Int) = 32 ∨ (s[k].toNat : Int) = 9))) (g : ¬ ((s[k].toNat : Int) = E ∧ ¬ q = 39)) (o : ¬ (q = 0 ∧ ((s[k].toNat : Int) = 39 ∨ (s[k].toNat : Int) = 34))) (m : ¬ (s[k].toNat : Int) = q) :
    more E s st q k = more E s (some (st.getD k)) q (k + 1) := by
  unfold more; rw [D_cons s k hk, mm_plain h g o m]
end
theorem more_end_none {E q : Int} {s : ByteArray} {k : Nat} (h : s.size ≤ k) : more E s none q k = [] := by
  unfold more; rw [D_nil s k h]; simp only [mm]
theorem more_end_some {E q : Int} {s : ByteArray} {k a : Nat} (h : s.size ≤ k) : more E s (some a) q k = [(a, s.size)] := by
  unfold more; rw [D_nil s k h]; simp only [mm]

theorem beq_yes {a b : Int} (h : a = b) : (a == b) = true := by simpa using h
theorem beq_no {a b : Int} (h : ¬ a = b) : (a == b) = false := by simpa using h

theorem blank_cases {c : Int} (h : c = 32 ∨ c = 9) : ((c == 32) = true ∧ (c == 9) = false) ∨ ((c == 32) = false ∧ (c == 9) = true) := by
  rcases h with rfl | rfl
  · exact .inl ⟨rfl, rfl⟩
  · exact .inr ⟨rfl, rfl⟩

set_option maxHeartbeats 8000000 in
theorem words_any (E : Int) (s : ByteArray) (w : World) (hs : s.size ≤ 1048576) :
    Calls Try.prog 9 #[.string s, .int .u8 E] w fun e w' => ∃ v, e = .returned v ∧ Got s w.heap.size w w' v (rest E s 0) := by
  obtain ⟨i0, hi, hz0, hz1, hz2⟩ := info_parts info9
  go_enter Try.func9, Try.ntmps9
  go_wp2
  go_loopw [5, 6, 7, 8] (fun v t u i wr => ∃ (k : Nat) (st : Option Nat) (q : Int) (acc : List (Nat × Nat)), k ≤ s.size + 1 ∧ i = .int .i64 k ∧ t = .int .i64 (stI st) ∧ u = .int .u8 q ∧ acc.length ≤ k ∧ (q = 0 ∨ q = 39 ∨ q = 34) ∧ (∀ a, st = some a → a < k ∧ a < s.size) ∧ Hid (acc ++ more E s st q k = rest E s 0) ∧ Hid (Got s w.heap.size w wr v acc)) (fun _ _ _ i _ => s.size + 1 - (intOf i).toNat)
  case atStart => exact ⟨0, none, 0, [], by omega, rfl, rfl, rfl, by simp, .inl rfl, fun a ha => (by cases ha), rfl, Got.start s w⟩
  case round =>
    obtain ⟨k, st, q, acc, hk, rfl, rfl, rfl, hal, hq, hst, HP, HG⟩ := hrel
    by_cases hlt : k < s.size
    · cases st with
      | none =>
        clear hst
        rw [show stI none = -1 from rfl]
        rcases hq with rfl | rfl | rfl
        · by_cases hb : (s[k].toNat : Int) = 32 ∨ (s[k].toNat : Int) = 9
          · have HN : Hid (acc ++ more E s none 0 (k + 1) = rest E s 0) := by
              rw [← HP.out, more_blank_none hlt ⟨rfl, hb⟩]; rfl
            rcases blank_cases hb with ⟨b1, b2⟩ | ⟨b1, b2⟩
            all_goals
              clear hb
              go_wp2_with fail
              go_roundw
              case rel => exact ⟨k + 1, none, 0, acc, by omega, by go_num, rfl, rfl, by omega, by decide, fun b hb => (by cases hb), HN.out, HG.out⟩
              case measure => simp [intOf]; omega
          · have b1 : ((s[k].toNat : Int) == 32) = false := beq_no (fun x => hb (.inl x))
            have b2 : ((s[k].toNat : Int) == 9) = false := beq_no (fun x => hb (.inr x))
            have H0 : Hid (¬ ((0 : Int) = 0 ∧ ((s[k].toNat : Int) = 32 ∨ (s[k].toNat : Int) = 9))) := fun x => hb x.2
            clear hb
            by_cases he : (s[k].toNat : Int) = E
            · have he' := beq_yes he
              have HN : Hid (acc ++ more E s (some k) 0 (k + 2) = rest E s 0) := by
                rw [← HP.out, more_esc hlt H0.out ⟨he, by decide⟩]; rfl
              clear he
              go_wp2_with fail
              go_roundw
              case rel => exact ⟨k + 2, some k, 0, acc, by omega, by go_num, by first | rfl | go_num, by first | rfl | go_num, by omega, by decide, fun b hb => by cases hb; omega, HN.out, HG.out⟩
              case measure => simp [intOf]; omega
            · have he' := beq_no he
              have HE : Hid (¬ ((s[k].toNat : Int) = E ∧ ¬ (0 : Int) = 39)) := fun x => he x.1
              clear he
              by_cases h39 : (s[k].toNat : Int) = 39
              · have h39' := beq_yes h39
                have HO : Hid (more E s none 0 k = more E s (some k) 39 (k + 1)) := by
                  have := more_open (st := none) hlt H0.out HE.out ⟨rfl, .inl h39⟩
                  rw [h39] at this; exact this
                have HQ : Hid ((s[k].toNat : Int) = 39) := h39
                have HN : Hid (acc ++ more E s (some k) 39 (k + 1) = rest E s 0) := by
                  rw [← HP.out, HO.out]; rfl
                clear h39
                go_wp2_with fail
                go_roundw
                case rel => exact ⟨k + 1, some k, 39, acc, by omega, by go_num, by first | rfl | go_num, by rw [HQ.out], by omega, by decide, fun b hb => by cases hb; omega, HN.out, HG.out⟩
                case measure => simp [intOf]; omega
              · have h39' := beq_no h39
                by_cases h34 : (s[k].toNat : Int) = 34
                · have h34' := beq_yes h34
                  have HO : Hid (more E s none 0 k = more E s (some k) 34 (k + 1)) := by
                    have := more_open (st := none) hlt H0.out HE.out ⟨rfl, .inr h34⟩
                    rw [h34] at this; exact this
                  have HQ : Hid ((s[k].toNat : Int) = 34) := h34
                  have HN : Hid (acc ++ more E s (some k) 34 (k + 1) = rest E s 0) := by
                    rw [← HP.out, HO.out]; rfl
                  clear h34 h39
                  go_wp2_with fail
                  go_roundw
                  case rel => exact ⟨k + 1, some k, 34, acc, by omega, by go_num, by first | rfl | go_num, by rw [HQ.out], by omega, by decide, fun b hb => by cases hb; omega, HN.out, HG.out⟩
                  case measure => simp [intOf]; omega
                · have h34' := beq_no h34
                  have HX : Hid (¬ ((0 : Int) = 0 ∧ ((s[k].toNat : Int) = 39 ∨ (s[k].toNat : Int) = 34))) := fun x => x.2.elim h39 h34
                  clear h39 h34
                  by_cases h0 : (s[k].toNat : Int) = 0
                  · have h0' := beq_yes h0
                    have HN : Hid (acc ++ more E s (some k) 0 (k + 1) = rest E s 0) := by
                      rw [← HP.out, more_shut hlt H0.out HE.out HX.out h0]; rfl
                    clear h0
                    go_wp2_with fail
                    go_roundw
                    case rel => exact ⟨k + 1, some k, 0, acc, by omega, by go_num, by first | rfl | go_num, by first | rfl | go_num, by omega, by decide, fun b hb => by cases hb; omega, HN.out, HG.out⟩
                    case measure => simp [intOf]; omega
                  · have h0' := beq_no h0
                    have HN : Hid (acc ++ more E s (some k) 0 (k + 1) = rest E s 0) := by
                      rw [← HP.out, more_plain hlt H0.out HE.out HX.out h0]; rfl
                    clear h0
                    go_wp2_with fail
                    go_roundw
                    case rel => exact ⟨k + 1, some k, 0, acc, by omega, by go_num, by first | rfl | go_num, by first | rfl | go_num, by omega, by decide, fun b hb => by cases hb; omega, HN.out, HG.out⟩
                    case measure => simp [intOf]; omega
        · have H0 : Hid (¬ ((39 : Int) = 0 ∧ ((s[k].toNat : Int) = 32 ∨ (s[k].toNat : Int) = 9))) := fun x => absurd x.1 (by decide)
          have HE : Hid (¬ ((s[k].toNat : Int) = E ∧ ¬ (39 : Int) = 39)) := fun x => x.2 rfl
          have HX : Hid (¬ ((39 : Int) = 0 ∧ ((s[k].toNat : Int) = 39 ∨ (s[k].toNat : Int) = 34))) := fun x => absurd x.1 (by decide)
          obtain ⟨ve, he'⟩ : ∃ v, ((s[k].toNat : Int) == E) = v := ⟨_, rfl⟩
          by_cases h39 : (s[k].toNat : Int) = 39
          · have h39' := beq_yes h39
            cases ve
            all_goals
              have HN : Hid (acc ++ more E s (some k) 0 (k + 1) = rest E s 0) := by
                rw [← HP.out, more_shut hlt H0.out HE.out HX.out h39]; rfl
              clear h39
              go_wp2_with fail
              go_roundw
              case rel => exact ⟨k + 1, some k, 0, acc, by omega, by go_num, by first | rfl | go_num, by first | rfl | go_num, by omega, by decide, fun b hb => by cases hb; omega, HN.out, HG.out⟩
              case measure => simp [intOf]; omega
          · have h39' := beq_no h39
            cases ve
            all_goals
              have HN : Hid (acc ++ more E s (some k) 39 (k + 1) = rest E s 0) := by
                rw [← HP.out, more_plain hlt H0.out HE.out HX.out h39]; rfl
              clear h39
              go_wp2_with fail
              go_roundw
              case rel => exact ⟨k + 1, some k, 39, acc, by omega, by go_num, by first | rfl | go_num, by first | rfl | go_num, by omega, by decide, fun b hb => by cases hb; omega, HN.out, HG.out⟩
              case measure => simp [intOf]; omega
        · have H0 : Hid (¬ ((34 : Int) = 0 ∧ ((s[k].toNat : Int) = 32 ∨ (s[k].toNat : Int) = 9))) := fun x => absurd x.1 (by decide)
          have HX : Hid (¬ ((34 : Int) = 0 ∧ ((s[k].toNat : Int) = 39 ∨ (s[k].toNat : Int) = 34))) := fun x => absurd x.1 (by decide)
          by_cases he : (s[k].toNat : Int) = E
          · have he' := beq_yes he
            have HN : Hid (acc ++ more E s (some k) 34 (k + 2) = rest E s 0) := by
              rw [← HP.out, more_esc hlt H0.out ⟨he, by decide⟩]; rfl
            clear he
            go_wp2_with fail
            go_roundw
            case rel => exact ⟨k + 2, some k, 34, acc, by omega, by go_num, by first | rfl | go_num, by first | rfl | go_num, by omega, by decide, fun b hb => by cases hb; omega, HN.out, HG.out⟩
            case measure => simp [intOf]; omega
          · have he' := beq_no he
            have HE : Hid (¬ ((s[k].toNat : Int) = E ∧ ¬ (34 : Int) = 39)) := fun x => he x.1
            clear he
            by_cases h34 : (s[k].toNat : Int) = 34
            · have h34' := beq_yes h34
              have HN : Hid (acc ++ more E s (some k) 0 (k + 1) = rest E s 0) := by
                rw [← HP.out, more_shut hlt H0.out HE.out HX.out h34]; rfl
              clear h34
              go_wp2_with fail
              go_roundw
              case rel => exact ⟨k + 1, some k, 0, acc, by omega, by go_num, by first | rfl | go_num, by first | rfl | go_num, by omega, by decide, fun b hb => by cases hb; omega, HN.out, HG.out⟩
              case measure => simp [intOf]; omega
            · have h34' := beq_no h34
              have HN : Hid (acc ++ more E s (some k) 34 (k + 1) = rest E s 0) := by
                rw [← HP.out, more_plain hlt H0.out HE.out HX.out h34]; rfl
              clear h34
              go_wp2_with fail
              go_roundw
              case rel => exact ⟨k + 1, some k, 34, acc, by omega, by go_num, by first | rfl | go_num, by first | rfl | go_num, by omega, by decide, fun b hb => by cases hb; omega, HN.out, HG.out⟩
              case measure => simp [intOf]; omega
      | some a =>
        obtain ⟨ha1, ha2⟩ := hst a rfl
        clear hst
        rw [show stI (some a) = (a : Int) from rfl]
        rcases hq with rfl | rfl | rfl
        · by_cases hb : (s[k].toNat : Int) = 32 ∨ (s[k].toNat : Int) = 9
          · have HN : Hid (acc ++ [(a, k)] ++ more E s none 0 (k + 1) = rest E s 0) := by
              rw [← HP.out, more_blank_some hlt ⟨rfl, hb⟩]; show _ = _; simp
            have hsl := fun w' => slice_at s a k (by omega) (by omega) w'
            have hown := HG.out.own
            have hsz := HG.out.size
            rcases blank_cases hb with ⟨b1, b2⟩ | ⟨b1, b2⟩
            · clear hb
              go_wp2_with (at_builtin; refine wpList_append_own _ rfl _ _ 23 rfl w.heap.size 9 i0 (.string ByteArray.empty) 1 16 Try.underlying23 hi hz0 hz1 hz2 rfl (by decide) _ _ _ rfl (hown.alloc _) ⟨wr.heap.size, 0, none⟩ 1 1 [.string (s.extract a k)] rfl rfl ?c1A ?c2A ?c3A ?c4A ?c5A ?_)
              case c1A =>
                intro j u hj
                match j, hj with
                | 0, hj => simp at hj; subst hj; simp [Addr.add]
              case c2A => intro u hu; simp at hu; subst hu; rfl
              case c3A => unfold maxLen; omega
              case c4A => omega
              case c5A => simp; omega
              intro v' w4 hown' hgrow' _
              have HG2 : Hid (Got s w.heap.size w w4 v' (acc ++ [(a, k)])) := HG.out.push hown' hgrow'
              clear hown' hgrow' hown hsl
              go_wp2_with fail
              go_roundw
              case rel => exact ⟨k + 1, none, 0, acc ++ [(a, k)], by omega, by go_num, rfl, rfl, by simp; omega, by decide, fun b hb => (by cases hb), HN.out, HG2.out⟩
              case measure => simp [intOf]; omega
            · clear hb
              go_wp2_with (at_builtin; refine wpList_append_own _ rfl _ _ 23 rfl w.heap.size 9 i0 (.string ByteArray.empty) 1 16 Try.underlying23 hi hz0 hz1 hz2 rfl (by decide) _ _ _ rfl (hown.alloc _) ⟨wr.heap.size, 0, none⟩ 1 1 [.string (s.extract a k)] rfl rfl ?c1B ?c2B ?c3B ?c4B ?c5B ?_)
              case c1B =>
                intro j u hj
                match j, hj with
                | 0, hj => simp at hj; subst hj; simp [Addr.add]
              case c2B => intro u hu; simp at hu; subst hu; rfl
              case c3B => unfold maxLen; omega
              case c4B => omega
              case c5B => simp; omega
              intro v' w4 hown' hgrow' _
              have HG2 : Hid (Got s w.heap.size w w4 v' (acc ++ [(a, k)])) := HG.out.push hown' hgrow'
              clear hown' hgrow' hown hsl
              go_wp2_with fail
              go_roundw
              case rel => exact ⟨k + 1, none, 0, acc ++ [(a, k)], by omega, by go_num, rfl, rfl, by simp; omega, by decide, fun b hb => (by cases hb), HN.out, HG2.out⟩
              case measure => simp [intOf]; omega
          · have b1 : ((s[k].toNat : Int) == 32) = false := beq_no (fun x => hb (.inl x))
            have b2 : ((s[k].toNat : Int) == 9) = false := beq_no (fun x => hb (.inr x))
            have H0 : Hid (¬ ((0 : Int) = 0 ∧ ((s[k].toNat : Int) = 32 ∨ (s[k].toNat : Int) = 9))) := fun x => hb x.2
            clear hb
            by_cases he : (s[k].toNat : Int) = E
            · have he' := beq_yes he
              have HN : Hid (acc ++ more E s (some a) 0 (k + 2) = rest E s 0) := by
                rw [← HP.out, more_esc hlt H0.out ⟨he, by decide⟩]; rfl
              clear he
              go_wp2_with fail
              go_roundw
              case rel => exact ⟨k + 2, some a, 0, acc, by omega, by go_num, by first | rfl | go_num, by first | rfl | go_num, by omega, by decide, fun b hb => by cases hb; omega, HN.out, HG.out⟩
              case measure => simp [intOf]; omega
            · have he' := beq_no he
              have HE : Hid (¬ ((s[k].toNat : Int) = E ∧ ¬ (0 : Int) = 39)) := fun x => he x.1
              clear he
              by_cases h39 : (s[k].toNat : Int) = 39
              · have h39' := beq_yes h39
                have HO : Hid (more E s (some a) 0 k = more E s (some a) 39 (k + 1)) := by
                  have := more_open (st := (some a)) hlt H0.out HE.out ⟨rfl, .inl h39⟩
                  rw [h39] at this; exact this
                have HQ : Hid ((s[k].toNat : Int) = 39) := h39
                have HN : Hid (acc ++ more E s (some a) 39 (k + 1) = rest E s 0) := by
                  rw [← HP.out, HO.out]; rfl
                clear h39
                go_wp2_with fail
                go_roundw
                case rel => exact ⟨k + 1, some a, 39, acc, by omega, by go_num, by first | rfl | go_num, by rw [HQ.out], by omega, by decide, fun b hb => by cases hb; omega, HN.out, HG.out⟩
                case measure => simp [intOf]; omega
              · have h39' := beq_no h39
                by_cases h34 : (s[k].toNat : Int) = 34
                · have h34' := beq_yes h34
                  have HO : Hid (more E s (some a) 0 k = more E s (some a) 34 (k + 1)) := by
                    have := more_open (st := (some a)) hlt H0.out HE.out ⟨rfl, .inr h34⟩
                    rw [h34] at this; exact this
                  have HQ : Hid ((s[k].toNat : Int) = 34) := h34
                  have HN : Hid (acc ++ more E s (some a) 34 (k + 1) = rest E s 0) := by
                    rw [← HP.out, HO.out]; rfl
                  clear h34 h39
                  go_wp2_with fail
                  go_roundw
                  case rel => exact ⟨k + 1, some a, 34, acc, by omega, by go_num, by first | rfl | go_num, by rw [HQ.out], by omega, by decide, fun b hb => by cases hb; omega, HN.out, HG.out⟩
                  case measure => simp [intOf]; omega
                · have h34' := beq_no h34
                  have HX : Hid (¬ ((0 : Int) = 0 ∧ ((s[k].toNat : Int) = 39 ∨ (s[k].toNat : Int) = 34))) := fun x => x.2.elim h39 h34
                  clear h39 h34
                  by_cases h0 : (s[k].toNat : Int) = 0
                  · have h0' := beq_yes h0
                    have HN : Hid (acc ++ more E s (some a) 0 (k + 1) = rest E s 0) := by
                      rw [← HP.out, more_shut hlt H0.out HE.out HX.out h0]; rfl
                    clear h0
                    go_wp2_with fail
                    go_roundw
                    case rel => exact ⟨k + 1, some a, 0, acc, by omega, by go_num, by first | rfl | go_num, by first | rfl | go_num, by omega, by decide, fun b hb => by cases hb; omega, HN.out, HG.out⟩
                    case measure => simp [intOf]; omega
                  · have h0' := beq_no h0
                    have HN : Hid (acc ++ more E s (some a) 0 (k + 1) = rest E s 0) := by
                      rw [← HP.out, more_plain hlt H0.out HE.out HX.out h0]; rfl
                    clear h0
                    go_wp2_with fail
                    go_roundw
                    case rel => exact ⟨k + 1, some a, 0, acc, by omega, by go_num, by first | rfl | go_num, by first | rfl | go_num, by omega, by decide, fun b hb => by cases hb; omega, HN.out, HG.out⟩
                    case measure => simp [intOf]; omega
        · have H0 : Hid (¬ ((39 : Int) = 0 ∧ ((s[k].toNat : Int) = 32 ∨ (s[k].toNat : Int) = 9))) := fun x => absurd x.1 (by decide)
          have HE : Hid (¬ ((s[k].toNat : Int) = E ∧ ¬ (39 : Int) = 39)) := fun x => x.2 rfl
          have HX : Hid (¬ ((39 : Int) = 0 ∧ ((s[k].toNat : Int) = 39 ∨ (s[k].toNat : Int) = 34))) := fun x => absurd x.1 (by decide)
          obtain ⟨ve, he'⟩ : ∃ v, ((s[k].toNat : Int) == E) = v := ⟨_, rfl⟩
          by_cases h39 : (s[k].toNat : Int) = 39
          · have h39' := beq_yes h39
            cases ve
            all_goals
              have HN : Hid (acc ++ more E s (some a) 0 (k + 1) = rest E s 0) := by
                rw [← HP.out, more_shut hlt H0.out HE.out HX.out h39]; rfl
              clear h39
              go_wp2_with fail
              go_roundw
              case rel => exact ⟨k + 1, some a, 0, acc, by omega, by go_num, by first | rfl | go_num, by first | rfl | go_num, by omega, by decide, fun b hb => by cases hb; omega, HN.out, HG.out⟩
              case measure => simp [intOf]; omega
          · have h39' := beq_no h39
            cases ve
            all_goals
              have HN : Hid (acc ++ more E s (some a) 39 (k + 1) = rest E s 0) := by
                rw [← HP.out, more_plain hlt H0.out HE.out HX.out h39]; rfl
              clear h39
              go_wp2_with fail
              go_roundw
              case rel => exact ⟨k + 1, some a, 39, acc, by omega, by go_num, by first | rfl | go_num, by first | rfl | go_num, by omega, by decide, fun b hb => by cases hb; omega, HN.out, HG.out⟩
              case measure => simp [intOf]; omega
        · have H0 : Hid (¬ ((34 : Int) = 0 ∧ ((s[k].toNat : Int) = 32 ∨ (s[k].toNat : Int) = 9))) := fun x => absurd x.1 (by decide)
          have HX : Hid (¬ ((34 : Int) = 0 ∧ ((s[k].toNat : Int) = 39 ∨ (s[k].toNat : Int) = 34))) := fun x => absurd x.1 (by decide)
          by_cases he : (s[k].toNat : Int) = E
          · have he' := beq_yes he
            have HN : Hid (acc ++ more E s (some a) 34 (k + 2) = rest E s 0) := by
              rw [← HP.out, more_esc hlt H0.out ⟨he, by decide⟩]; rfl
            clear he
            go_wp2_with fail
            go_roundw
            case rel => exact ⟨k + 2, some a, 34, acc, by omega, by go_num, by first | rfl | go_num, by first | rfl | go_num, by omega, by decide, fun b hb => by cases hb; omega, HN.out, HG.out⟩
            case measure => simp [intOf]; omega
          · have he' := beq_no he
            have HE : Hid (¬ ((s[k].toNat : Int) = E ∧ ¬ (34 : Int) = 39)) := fun x => he x.1
            clear he
            by_cases h34 : (s[k].toNat : Int) = 34
            · have h34' := beq_yes h34
              have HN : Hid (acc ++ more E s (some a) 0 (k + 1) = rest E s 0) := by
                rw [← HP.out, more_shut hlt H0.out HE.out HX.out h34]; rfl
              clear h34
              go_wp2_with fail
              go_roundw
              case rel => exact ⟨k + 1, some a, 0, acc, by omega, by go_num, by first | rfl | go_num, by first | rfl | go_num, by omega, by decide, fun b hb => by cases hb; omega, HN.out, HG.out⟩
              case measure => simp [intOf]; omega
            · have h34' := beq_no h34
              have HN : Hid (acc ++ more E s (some a) 34 (k + 1) = rest E s 0) := by
                rw [← HP.out, more_plain hlt H0.out HE.out HX.out h34]; rfl
              clear h34
              go_wp2_with fail
              go_roundw
              case rel => exact ⟨k + 1, some a, 34, acc, by omega, by go_num, by first | rfl | go_num, by first | rfl | go_num, by omega, by decide, fun b hb => by cases hb; omega, HN.out, HG.out⟩
              case measure => simp [intOf]; omega
    · cases st with
      | none =>
        have HN : Hid (acc = rest E s 0) := by
          rw [← HP.out, more_end_none (by omega)]; show _ = _; simp
        clear hst hq
        rw [show stI none = -1 from rfl]
        go_wp2_with fail
        go_ret
        exact ⟨_, rfl, by rw [← HN.out]; exact HG.out⟩
      | some a =>
        obtain ⟨ha1, ha2⟩ := hst a rfl
        have HN : Hid (acc ++ [(a, s.size)] = rest E s 0) := by
          rw [← HP.out, more_end_some (by omega)]; rfl
        clear hst hq
        rw [show stI (some a) = (a : Int) from rfl]
        have hsl := fun w' => slice_from s a (by omega) w'
        have hown := HG.out.own
        have hsz := HG.out.size
        go_wp2_with (at_builtin; refine wpList_append_own _ rfl _ _ 23 rfl w.heap.size 9 i0 (.string ByteArray.empty) 1 16 Try.underlying23 hi hz0 hz1 hz2 rfl (by decide) _ _ _ rfl (hown.alloc _) ⟨wr.heap.size, 0, none⟩ 1 1 [.string (s.extract a s.size)] rfl rfl ?c1Z ?c2Z ?c3Z ?c4Z ?c5Z ?_)
        case c1Z =>
          intro j u hj
          match j, hj with
          | 0, hj => simp at hj; subst hj; simp [Addr.add]
        case c2Z => intro u hu; simp at hu; subst hu; rfl
        case c3Z => unfold maxLen; omega
        case c4Z => omega
        case c5Z => simp; omega
        intro v' w4 hown' hgrow' _
        have HG2 : Hid (Got s w.heap.size w w4 v' (acc ++ [(a, s.size)])) := HG.out.push hown' hgrow'
        clear hown' hgrow' hown hsl
        go_wp2_with fail
        go_ret
        exact ⟨_, rfl, by rw [← HN.out]; exact HG2.out⟩

end Go.Proofs.Qxb6602053a
