/-
  grammarWords (10): the walk.
-/
import Derived.Test.Qxb6602053aEnds
namespace Go.Proofs.Qxb6602053a
open Go.RowKit
set_option linter.unusedVariables false

theorem info9 : (Try.prog.info? 9).map (fun i => (i.zero, i.size, i.bytes)) = some (some (.string ByteArray.empty), 1, 16) := by kernel_rfl

/-- the words as cells -/
def wordsV (s : ByteArray) (l : List (Nat × Nat)) : List Value := l.map fun p => Value.string (s.extract p.1 p.2)
theorem wordsV_snoc (s : ByteArray) (l : List (Nat × Nat)) (a b : Nat) : wordsV s (l ++ [(a, b)]) = wordsV s l ++ [.string (s.extract a b)] := by simp [wordsV]

/-- what has been gathered: the words 'acc' in a row of the call's own; nil where there is none -/
structure Got (s : ByteArray) (B : Nat) (w wr : World) (v : Value) (acc : List (Nat × Nat)) : Prop where
  own : wr.ownsRow B 9 1 v acc.length (wordsV s acc)
  nil : acc = [] → v = .slice none 0 0
  below : Below B w wr
  size : B ≤ wr.heap.size

theorem Got.start (s : ByteArray) (w : World) : Got s w.heap.size w w (.slice none 0 0) [] :=
  ⟨World.ownsRow_nil _ _ _ _, fun _ => rfl, Below.refl _ _, Nat.le_refl _⟩

/-- behind an append -/
theorem Got.push {s : ByteArray} {B : Nat} {w wr w1 : World} {v v' : Value} {acc : List (Nat × Nat)} {a b : Nat} {o : Obj} (h : Got s B w wr v acc)
    (hown : w1.ownsRow B 9 1 v' (acc.length + 1) (wordsV s acc ++ [.string (s.extract a b)])) (hg : (wr.alloc o).grownBy w1 v.ownBlock) : Got s B w w1 v' (acc ++ [(a, b)]) := by
  refine ⟨by rw [wordsV_snoc, List.length_append]; exact hown, fun e => by simp at e, ?_, ?_⟩
  · exact (h.below.alloc h.size o).grown hg (by simp; have := h.size; omega) (fun k hk => (h.own.lt k hk).1)
  · have := hg.size; simp at this; have := h.size; omega

theorem slice_at (s : ByteArray) (a b : Nat) (h1 : a ≤ b) (h2 : b ≤ s.size) (w : World) :
    (Instr.slice 9 (.string s) (some (.int .i64 (a : Int))) (some (.int .i64 (b : Int))) none).run Try.prog w = .ok (.string (s.extract a b)) w := by
  rw [run_slice_string (P := Try.prog) w 9 s .i64 .i64 a b Try.underlying9 (by omega) (by omega) (by omega)]
  simp

set_option maxHeartbeats 2000000 in
theorem gram_any (E : Int) (s : ByteArray) (w : World) (hs : s.size ≤ 1048576) :
    Calls Try.prog 10 #[.string s, .int .u8 E] w fun e w' => ∃ v, e = .returned v ∧ Got s w.heap.size w w' v (rest E s 0) := by
  obtain ⟨i0, hi, hz0, hz1, hz2⟩ := info_parts info9
  go_enter Try.func10, Try.ntmps10
  go_wp2
  go_loopw [5, 6] (fun v i wr => ∃ (k : Nat) (acc : List (Nat × Nat)), k ≤ s.size ∧ i = .int .i64 k ∧ acc.length ≤ k ∧ Hid (acc ++ rest E s k = rest E s 0) ∧ Hid (Got s w.heap.size w wr v acc)) (fun _ i _ => s.size - (intOf i).toNat)
  case atStart => exact ⟨0, [], Nat.zero_le _, rfl, by simp, rfl, Got.start s w⟩
  case round =>
    obtain ⟨k, acc, hk, rfl, hal, HP, HG⟩ := hrel
    by_cases hlt : k < s.size
    · by_cases hb : (s[k].toNat : Int) = 32 ∨ (s[k].toNat : Int) = 9
      · have c1 := fun w => blank_yes _ w hb
        have HN : Hid (acc ++ rest E s (k + 1) = rest E s 0) := by
          rw [← HP.out, rest_blank E s k hlt hb]; rfl
        clear hb
        go_wp2_with fail
        refine (c1 _).mono ?_
        rintro e w2 ⟨rfl, hw2⟩
        obtain rfl := hw2.symm
        clear c1
        go_wp2_with fail
        go_roundw
        case rel => exact ⟨k + 1, acc, by omega, by go_num, by omega, HN.out, HG.out⟩
        case measure => simp [intOf]; omega
      · have c1 := fun w => blank_no _ w hb
        have c2 := fun w => wordEnd_any E s k w hs hk
        have hgt := fin_gt E s k hlt hb
        have hle := fin_le E s 0 k
        have HN := rest_word E s k hlt hb
        generalize fin E s 0 k = en at c2 hgt hle HN
        have HR : Hid (acc ++ [(k, en)] ++ rest E s en = rest E s 0) := by
          rw [← HP.out, HN]; show _ = _; simp
        clear HN hb
        go_wp2_with fail
        refine (c1 _).mono ?_
        rintro e w2 ⟨rfl, hw2⟩
        obtain rfl := hw2.symm
        clear c1
        go_wp2_with fail
        refine (c2 _).mono ?_
        rintro e w3 ⟨rfl, hw3⟩
        obtain rfl := hw3.symm
        clear c2
        have hown := HG.out.own
        have hsz := HG.out.size
        have hsl := fun w' => slice_at s k en (by omega) hle w'
        go_wp2_with (at_builtin; refine wpList_append_own _ rfl _ _ 23 rfl w.heap.size 9 i0 (.string ByteArray.empty) 1 16 Try.underlying23 hi hz0 hz1 hz2 rfl (by decide) _ _ _ rfl (hown.alloc _) ⟨wr.heap.size, 0, none⟩ 1 1 [.string (s.extract k en)] rfl rfl ?c1 ?c2 ?c3 ?c4 ?c5 ?_)
        case c1 =>
          intro j u hj
          match j, hj with
          | 0, hj => simp at hj; subst hj; simp [Addr.add]
        case c2 => intro u hu; simp at hu; subst hu; rfl
        case c3 => unfold maxLen; omega
        case c4 => omega
        case c5 => simp; omega
        intro v' w4 hown' hgrow' _
        have HG2 : Hid (Got s w.heap.size w w4 v' (acc ++ [(k, en)])) := HG.out.push hown' hgrow'
        clear hown' hgrow' hown hsl
        go_wp2_with fail
        go_roundw
        case rel => exact ⟨en, acc ++ [(k, en)], hle, by go_num, by simp; omega, HR.out, HG2.out⟩
        case measure => simp [intOf]; omega
    · have HN : Hid (acc = rest E s 0) := by
        rw [← HP.out, rest_end E s k (by omega)]; show _ = _; simp
      go_wp2_with fail
      go_ret
      exact ⟨_, rfl, by rw [← HN.out]; exact HG.out⟩

end Go.Proofs.Qxb6602053a
