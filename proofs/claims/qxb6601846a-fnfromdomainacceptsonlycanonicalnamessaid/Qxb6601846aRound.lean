/-
  Plain law: what FromDomain answers at a name that Domain has made. No program, no world in its statements.
-/
import Derived.Test.Qxb6601846aTrim
import Derived.Test.Qxb6601846aDom
namespace Go.Proofs.Qxb6601846a
open Go.RowKit
set_option linter.unusedVariables false

theorem gt_mk {l : List UInt8} {i : Nat} {c : UInt8} (h : l[i]? = some c) : gt ⟨l.toArray⟩ i = (c.toNat : Int) := by
  unfold gt
  simp [h]

theorem get_gt (s : ByteArray) (i : Nat) (h : i < s.size) : s.data.toList[i]? = some (s.data[i]!) := by
  rw [bang s i h, List.getElem?_eq_getElem (by simpa using h)]; rfl

theorem flat_even : ∀ (l : List UInt8) (j : Nat), (l.flatMap fun c => [c, (46 : UInt8)])[2 * j]? = l[j]?
  | [], j => by simp
  | c :: l, 0 => by simp
  | c :: l, j + 1 => by
    rw [show 2 * (j + 1) = 2 * j + 1 + 1 by omega]
    simp only [List.flatMap_cons, List.cons_append, List.nil_append, List.getElem?_cons_succ]
    exact flat_even l j

theorem flat_odd : ∀ (l : List UInt8) (j : Nat), j < l.length → (l.flatMap fun c => [c, (46 : UInt8)])[2 * j + 1]? = some 46
  | [], j, h => by simp at h
  | c :: l, 0, _ => by simp
  | c :: l, j + 1, h => by
    rw [show 2 * (j + 1) + 1 = 2 * j + 1 + 1 + 1 by omega]
    simp only [List.flatMap_cons, List.cons_append, List.nil_append, List.getElem?_cons_succ]
    exact flat_odd l j (by simpa using h)

theorem acc0_even (n : ByteArray) (j : Nat) (h : j < n.size) : (acc n 0)[2 * j]? = some (n.data[n.size - 1 - j]!) := by
  unfold acc
  rw [flat_even, List.drop_zero, List.getElem?_reverse (by simpa using h)]
  have e : n.data.toList.length = n.size := by simp
  rw [e, get_gt n _ (by omega)]

theorem acc0_odd (n : ByteArray) (j : Nat) (h : j < n.size) : (acc n 0)[2 * j + 1]? = some 46 := by
  unfold acc
  exact flat_odd _ _ (by simpa using h)

theorem acc0_length (n : ByteArray) : (acc n 0).length = 2 * n.size := by rw [acc_length]; omega

theorem dom_even (n s : ByteArray) (j : Nat) (h : j < n.size) : gt (domain n s) (2 * j) = gt n (n.size - 1 - j) := by
  unfold domain domL
  rw [gt_mk (c := n.data[n.size - 1 - j]!) (by rw [List.getElem?_append_left (by rw [acc0_length]; omega)]; exact acc0_even n j h)]
  rfl

theorem dom_odd (n s : ByteArray) (j : Nat) (h : j < n.size) : gt (domain n s) (2 * j + 1) = 46 := by
  unfold domain domL
  rw [gt_mk (c := 46) (by rw [List.getElem?_append_left (by rw [acc0_length]; omega)]; exact acc0_odd n j h)]
  rfl

/-- is s a lone dot? -/
def lone (s : ByteArray) : Prop := s.toList = [46]

theorem lone_size {s : ByteArray} (h : lone s) : s.size = 1 := by
  unfold lone at h
  rw [Lib.toList_data] at h
  rw [Lib.size_eq, h]; rfl

theorem lone_iff (s : ByteArray) : lone s ↔ s.size = 1 ∧ gt s 0 = 46 := by
  constructor
  · intro h
    refine ⟨lone_size h, ?_⟩
    unfold lone at h
    rw [Lib.toList_data] at h
    have : s = ⟨#[46]⟩ := by rw [← Lib.mk_data s, h]
    rw [this]; rfl
  · rintro ⟨h1, h2⟩
    have : s = ⟨#[46]⟩ := ext_of_gt h1 (fun i hi => by rw [show i = 0 by omega, h2]; rfl)
    unfold lone
    rw [this, Lib.toList_data]

theorem dom_size_lone {n s : ByteArray} (h : lone s) : (domain n s).size = 2 * n.size := by
  show (domL n s).toArray.size = _
  unfold domL
  rw [if_pos (show s.toList = [46] from h)]
  simp [acc0_length]

theorem dom_size {n s : ByteArray} (h : ¬ lone s) : (domain n s).size = 2 * n.size + s.size := by
  show (domL n s).toArray.size = _
  unfold domL
  rw [if_neg (show ¬ s.toList = [46] from h)]
  simp [acc0_length]

theorem dom_tail {n s : ByteArray} (h : ¬ lone s) (i : Nat) (hi : i < s.size) : gt (domain n s) (2 * n.size + i) = gt s i := by
  unfold domain domL
  rw [if_neg (show ¬ s.toList = [46] from h), gt_mk (c := s.data[i]!) (by rw [List.getElem?_append_right (by rw [acc0_length]; omega), acc0_length, show 2 * n.size + i - 2 * n.size = i by omega]; exact get_gt s i hi)]
  rfl

theorem trimDot_yes {s : ByteArray} (h0 : 0 < s.size) (h : gt s (s.size - 1) = 46) : trimDot s = s.extract 0 (s.size - 1) := by
  unfold trimDot; rw [if_pos ⟨h0, h⟩]
theorem trimDot_no {s : ByteArray} (h : ¬ (0 < s.size ∧ gt s (s.size - 1) = 46)) : trimDot s = s := by
  unfold trimDot; exact if_neg h

theorem size_extract0 (s : ByteArray) (k : Nat) (h : k ≤ s.size) : (s.extract 0 k).size = k := by simp; omega
theorem gt_extract0 (s : ByteArray) (k i : Nat) (h : k ≤ s.size) (hi : i < k) : gt (s.extract 0 k) i = gt s i := by
  rw [gt_extract s 0 k i h (by omega), Nat.zero_add]

/-- what is left of Domain's name when one dot is dropped -/
structure Trimmed (n s T : ByteArray) : Prop where
  none : (trimDot s).size = 0 → T.size = 2 * n.size - 1
  some : ¬ (trimDot s).size = 0 → T.size = 2 * n.size + (trimDot s).size
  head : ∀ i, i < T.size → i < 2 * n.size → gt T i = gt (domain n s) i
  tail : ¬ (trimDot s).size = 0 → ∀ i, i < (trimDot s).size → gt T (2 * n.size + i) = gt (trimDot s) i

theorem trim_dom (n s : ByteArray) (hm : 1 ≤ n.size) : Trimmed n s (trimDot (domain n s)) := by
  by_cases hl : lone s
  · -- a lone dot: the name ends in a dot of ours
    obtain ⟨hz, hg⟩ := (lone_iff s).1 hl
    have hS : (trimDot s).size = 0 := by rw [trimDot_yes (by omega) (by rw [hz]; exact hg), size_extract0 _ _ (by omega)]; omega
    have hD := dom_size_lone (n := n) hl
    have hlast : gt (domain n s) ((domain n s).size - 1) = 46 := by
      rw [hD, show 2 * n.size - 1 = 2 * (n.size - 1) + 1 by omega]; exact dom_odd n s _ (by omega)
    have hT := trimDot_yes (s := domain n s) (by omega) hlast
    refine ⟨fun _ => by rw [hT, size_extract0 _ _ (by omega), hD], fun h => absurd hS h, fun i hi _ => ?_, fun h => absurd hS h⟩
    rw [hT] at hi ⊢
    rw [size_extract0 _ _ (by omega)] at hi
    exact gt_extract0 _ _ _ (by omega) hi
  · have hD := dom_size (n := n) hl
    by_cases hz : s.size = 0
    · have hS : trimDot s = s := trimDot_no (by omega)
      have hlast : gt (domain n s) ((domain n s).size - 1) = 46 := by
        rw [hD, hz, show 2 * n.size + 0 - 1 = 2 * (n.size - 1) + 1 by omega]; exact dom_odd n s _ (by omega)
      have hT := trimDot_yes (s := domain n s) (by omega) hlast
      refine ⟨fun _ => by rw [hT, size_extract0 _ _ (by omega), hD]; omega, fun h => absurd (by rw [hS]; exact hz) h, fun i hi _ => ?_, fun h => absurd (by rw [hS]; exact hz) h⟩
      rw [hT] at hi ⊢
      rw [size_extract0 _ _ (by omega)] at hi
      exact gt_extract0 _ _ _ (by omega) hi
    · have hlast : gt (domain n s) ((domain n s).size - 1) = gt s (s.size - 1) := by
        rw [hD, show 2 * n.size + s.size - 1 = 2 * n.size + (s.size - 1) by omega]; exact dom_tail hl _ (by omega)
      by_cases hg : gt s (s.size - 1) = 46
      · have h1 : ¬ s.size = 1 := fun e => hl ((lone_iff s).2 ⟨e, by rw [e] at hg; exact hg⟩)
        have hS := trimDot_yes (s := s) (by omega) hg
        have hSz : (trimDot s).size = s.size - 1 := by rw [hS]; exact size_extract0 _ _ (by omega)
        have hT := trimDot_yes (s := domain n s) (by omega) (by rw [hlast]; exact hg)
        have hTz : (trimDot (domain n s)).size = 2 * n.size + s.size - 1 := by rw [hT, size_extract0 _ _ (by omega), hD]
        refine ⟨fun h => by omega, fun _ => by omega, fun i hi hi2 => ?_, fun _ i hi => ?_⟩
        · rw [hT]; exact gt_extract0 _ _ _ (by omega) (by omega)
        · rw [hSz] at hi
          rw [hT, gt_extract0 _ _ _ (by omega) (by omega), dom_tail hl i (by omega), hS, gt_extract0 _ _ _ (by omega) hi]
      · have hS : trimDot s = s := trimDot_no (fun h => hg h.2)
        have hT : trimDot (domain n s) = domain n s := trimDot_no (fun h => hg (by rw [← hlast]; exact h.2))
        rw [hT]
        refine ⟨fun h => by rw [hS] at h; omega, fun _ => by rw [hS, hD], fun i _ _ => rfl, fun _ i hi => ?_⟩
        rw [hS] at hi ⊢
        exact dom_tail hl i hi

theorem cut_dom (n s : ByteArray) (hm : 1 ≤ n.size) : ∃ B, cutBody (trimDot (domain n s)) (trimDot s) = some B ∧ B.size = 2 * n.size - 1 ∧ ∀ i, i < 2 * n.size - 1 → gt B i = gt (domain n s) i := by
  have t := trim_dom n s hm
  revert t
  generalize trimDot (domain n s) = T
  intro t
  by_cases h0 : (trimDot s).size = 0
  · have hz := t.none h0
    exact ⟨T, by unfold cutBody; rw [if_pos h0], hz, fun i hi => t.head i (by omega) (by omega)⟩
  · have hz := t.some h0
    have e1 : T.size - (trimDot s).size = 2 * n.size := by omega
    have hdot : gt T (T.size - (trimDot s).size - 1) = 46 := by
      rw [e1, t.head _ (by omega) (by omega), show 2 * n.size - 1 = 2 * (n.size - 1) + 1 by omega]
      exact dom_odd n s _ (by omega)
    have heq : T.extract (T.size - (trimDot s).size) T.size = trimDot s := by
      have z : (T.extract (T.size - (trimDot s).size) T.size).size = (trimDot s).size := by simp; omega
      refine ext_of_gt z fun i hi => ?_
      rw [gt_extract T _ _ i (Nat.le_refl _) (by omega), e1]
      exact t.tail h0 i (by omega)
    refine ⟨T.extract 0 (T.size - (trimDot s).size - 1), ?_, ?_, fun i hi => ?_⟩
    · unfold cutBody
      rw [if_neg h0, if_neg (by omega), if_pos hdot, heq, if_pos (by unfold eqf; simp)]
    · rw [size_extract0 _ _ (by omega)]; omega
    · rw [gt_extract0 _ _ _ (by omega) (by omega)]
      exact t.head i (by omega) (by omega)

theorem size_digs (B : ByteArray) : (digs B).size = (B.size + 1) / 2 := by
  show (digL B ((B.size + 1) / 2)).toArray.size = _
  simp [digL_length]

theorem gt_digs (B : ByteArray) (j : Nat) (h : j < (B.size + 1) / 2) : gt (digs B) j = gt B (B.size - 1 - 2 * j) := by
  unfold digs
  rw [gt_mk (c := (digL B ((B.size + 1) / 2))[j]'(by rw [digL_length]; exact h)) (List.getElem?_eq_getElem _)]
  exact digL_at B _ j (by rw [digL_length]; exact h)

theorem round_trip (n s : ByteArray) (hm : 1 ≤ n.size) (h15 : n.size ≤ 15) (hd : ∀ i, i < n.size → 48 ≤ gt n i ∧ gt n i ≤ 57) : fdOk (domain n s) s = true ∧ fdNum (domain n s) s = n := by
  obtain ⟨B, hc, hz, hg⟩ := cut_dom n s hm
  have hev : ∀ j, j < n.size → gt B (2 * j) = gt n (n.size - 1 - j) := fun j hj => by
    rw [hg _ (by omega)]; exact dom_even n s j hj
  have hod : ∀ j, 2 * j + 1 < 2 * n.size - 1 → gt B (2 * j + 1) = 46 := fun j hj => by
    rw [hg _ hj]; exact dom_odd n s j (by omega)
  have hok : okBody B := by
    refine ⟨by omega, by omega, fun i hi => ⟨fun h => ?_, fun h => ?_⟩⟩
    · have := hev (i / 2) (by omega)
      rw [show 2 * (i / 2) = i by omega] at this
      rw [this]; exact hd _ (by omega)
    · have := hod (i / 2) (by omega)
      rw [show 2 * (i / 2) + 1 = i by omega] at this
      exact this
  unfold fdOk fdNum
  rw [hc]
  refine ⟨okB_true hok, ?_⟩
  unfold ansNum
  simp only [okB_true hok, if_true]
  have hk : (B.size + 1) / 2 = n.size := by omega
  refine ext_of_gt (by rw [size_digs, hk]) fun j hj => ?_
  rw [size_digs, hk] at hj
  rw [gt_digs B j (by omega), show B.size - 1 - 2 * j = 2 * (n.size - 1 - j) by omega, hev _ (by omega), show n.size - 1 - (n.size - 1 - j) = j by omega]

theorem eqf_get {a b : ByteArray} (h : eqf a b = true) : a.size = b.size ∧ ∀ i, i < a.size → low (gt a i) = low (gt b i) := by
  have hs : a.size = b.size := by
    apply Classical.byContradiction
    intro hn
    rw [eqf_size hn] at h; cases h
  refine ⟨hs, fun i hi => ?_⟩
  apply Classical.byContradiction
  intro hn
  rw [eqf_at i hi (by omega) (by unfold lowB; rw [gt_at a i hi, gt_at b i (by omega)]; exact hn)] at h
  cases h

set_option maxHeartbeats 1000000 in
/-- what FromDomain accepts is what Domain makes, up to case -/
theorem canon (name s : ByteArray) (h : fdOk name s = true) :
    1 ≤ (fdNum name s).size ∧ (fdNum name s).size ≤ 15 ∧ (∀ i, i < (fdNum name s).size → 48 ≤ gt (fdNum name s) i ∧ gt (fdNum name s) i ≤ 57) ∧
    (trimDot (domain (fdNum name s) s)).size = (trimDot name).size ∧ ∀ i, i < (trimDot name).size → low (gt (trimDot (domain (fdNum name s) s)) i) = low (gt (trimDot name) i) := by
  unfold fdOk at h
  unfold fdNum
  cases hc : cutBody (trimDot name) (trimDot s) with
  | none => rw [hc] at h; cases h
  | some B =>
    rw [hc] at h
    have hok : okBody B := of_okB h
    have e : ansNum (some B) = digs B := by unfold ansNum; simp only [show okB B = true from h, if_true]
    rw [e]
    have hk := size_digs B
    have hd := gt_digs B
    obtain ⟨o1, o2, o3⟩ := hok
    have hm : 1 ≤ (digs B).size := by omega
    have t := trim_dom (digs B) s hm
    refine ⟨hm, by omega, fun i hi => ?_, ?_⟩
    · rw [hd i (by omega)]; exact (o3 _ (by omega)).1 (by omega)
    · -- the head of Domain's name is the body
      have hb : ∀ i, i < B.size → gt (domain (digs B) s) i = gt B i := by
        intro i hi
        by_cases ev : i % 2 = 0
        · have := dom_even (digs B) s (i / 2) (by omega)
          rw [show 2 * (i / 2) = i by omega] at this
          rw [this, hd _ (by omega)]
          congr 1
          omega
        · have := dom_odd (digs B) s (i / 2) (by omega)
          rw [show 2 * (i / 2) + 1 = i by omega] at this
          rw [this]; exact ((o3 i hi).2 (by omega)).symm
      revert t
      generalize trimDot (domain (digs B) s) = T
      intro t
      unfold cutBody at hc
      by_cases h0 : (trimDot s).size = 0
      · rw [if_pos h0] at hc
        have hN : trimDot name = B := Option.some.inj hc
        have hz := t.none h0
        rw [hN]
        refine ⟨by omega, fun i hi => ?_⟩
        rw [t.head i (by omega) (by omega), hb i hi]
      · rw [if_neg h0] at hc
        by_cases h1 : (trimDot name).size < (trimDot s).size + 2
        · rw [if_pos h1] at hc; cases hc
        rw [if_neg h1] at hc
        by_cases h2 : gt (trimDot name) ((trimDot name).size - (trimDot s).size - 1) = 46
        · rw [if_pos h2] at hc
          by_cases h3 : eqf ((trimDot name).extract ((trimDot name).size - (trimDot s).size) (trimDot name).size) (trimDot s) = true
          · rw [if_pos h3] at hc
            have hB : (trimDot name).extract 0 ((trimDot name).size - (trimDot s).size - 1) = B := Option.some.inj hc
            have hBz : B.size = (trimDot name).size - (trimDot s).size - 1 := by rw [← hB]; exact size_extract0 _ _ (by omega)
            have hz := t.some h0
            obtain ⟨_, hf⟩ := eqf_get h3
            refine ⟨by omega, fun i hi => ?_⟩
            by_cases c1 : i < B.size
            · rw [t.head i (by omega) (by omega), hb i c1, ← hB, gt_extract0 _ _ _ (by omega) (by omega)]
            · by_cases c2 : i = B.size
              · rw [t.head i (by omega) (by omega), show i = 2 * ((digs B).size - 1) + 1 by omega, dom_odd _ _ _ (by omega), show 2 * ((digs B).size - 1) + 1 = (trimDot name).size - (trimDot s).size - 1 by omega, h2]
              · have := t.tail h0 (i - 2 * (digs B).size) (by omega)
                rw [show 2 * (digs B).size + (i - 2 * (digs B).size) = i by omega] at this
                rw [this]
                have h4 := hf (i - 2 * (digs B).size) (by simp; omega)
                rw [← h4, gt_extract _ _ _ _ (Nat.le_refl _) (by omega), show (trimDot name).size - (trimDot s).size + (i - 2 * (digs B).size) = i by omega]
          · rw [if_neg h3] at hc; cases hc
        · rw [if_neg h2] at hc; cases hc

end Go.Proofs.Qxb6601846a
