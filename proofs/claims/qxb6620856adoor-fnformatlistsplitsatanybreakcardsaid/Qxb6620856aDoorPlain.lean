/-
  PLAIN: what FormatList writes, as a function on lists of numbers; no Go in sight.
-/
import Derived.Lib.ItoaLen
import Derived.RowKit
namespace Go.Proofs.Qxb6620856aDoor
namespace Pl
open Go.RowKit

/-- The element j opens a run. -/
def isStart (zs : List Int) (j : Nat) : Bool := decide (j = 0) || decide (zs.getD j 0 ≠ wrap64 (zs.getD (j - 1) 0 + 1))
/-- The element j closes a run. -/
def isEnd (zs : List Int) (j : Nat) : Bool := decide (j + 1 = zs.length) || decide (zs.getD (j + 1) 0 ≠ wrap64 (zs.getD j 0 + 1))
/-- A comma, ahead of every run but the first. -/
def sep (j : Nat) : List UInt8 := if 0 < j then [44] else []
/-- What the element j adds to the text. -/
def piece (zs : List Int) (j : Nat) : List UInt8 :=
  if isStart zs j = true then sep j ++ Lib.itoa (zs.getD j 0) else if isEnd zs j = true then 45 :: Lib.itoa (zs.getD j 0) else []
/-- The text of the first k elements, read in the whole list. -/
def outTo (zs : List Int) : Nat → List UInt8
  | 0 => []
  | k + 1 => outTo zs k ++ piece zs k
/-- The text. -/
def out (zs : List Int) : List UInt8 := outTo zs zs.length
/-- How many of the first k elements, the first one apart, open a run. -/
def breaks (zs : List Int) : Nat → Nat
  | 0 => 0
  | k + 1 => breaks zs k + if 0 < k ∧ isStart zs k = true then 1 else 0

/-- All numbers are ints. -/
def Fit (zs : List Int) : Prop := ∀ j : Nat, -9223372036854775808 ≤ zs.getD j 0 ∧ zs.getD j 0 ≤ 9223372036854775807

theorem isStart_zero (zs : List Int) : isStart zs 0 = true := by simp [isStart]
theorem isStart_of_ne {zs : List Int} {j : Nat} (h : zs.getD j 0 ≠ wrap64 (zs.getD (j - 1) 0 + 1)) : isStart zs j = true := by
  unfold isStart; rw [decide_eq_true h]; simp
theorem isStart_false {zs : List Int} {j : Nat} (h0 : j ≠ 0) (h : zs.getD j 0 = wrap64 (zs.getD (j - 1) 0 + 1)) : isStart zs j = false := by
  unfold isStart
  rw [decide_eq_false h0, decide_eq_false (by simp only [ne_eq, h, not_true_eq_false, not_false_eq_true])]; rfl
theorem isEnd_last {zs : List Int} {j : Nat} (h : j + 1 = zs.length) : isEnd zs j = true := by
  unfold isEnd; rw [decide_eq_true h]; simp
theorem isEnd_of_ne {zs : List Int} {j : Nat} (h : zs.getD (j + 1) 0 ≠ wrap64 (zs.getD j 0 + 1)) : isEnd zs j = true := by
  unfold isEnd; rw [decide_eq_true h]; simp
theorem isEnd_false {zs : List Int} {j : Nat} (h0 : j + 1 ≠ zs.length) (h : zs.getD (j + 1) 0 = wrap64 (zs.getD j 0 + 1)) : isEnd zs j = false := by
  unfold isEnd
  rw [decide_eq_false h0, decide_eq_false (by simp only [ne_eq, h, not_true_eq_false, not_false_eq_true])]; rfl

theorem piece_start {zs : List Int} {j : Nat} (h : isStart zs j = true) : piece zs j = sep j ++ Lib.itoa (zs.getD j 0) := by
  unfold piece; rw [if_pos h]
theorem piece_end {zs : List Int} {j : Nat} (h : isStart zs j = false) (h' : isEnd zs j = true) : piece zs j = 45 :: Lib.itoa (zs.getD j 0) := by
  unfold piece; rw [if_neg (by rw [h]; exact Bool.false_ne_true), if_pos h']
theorem piece_mid {zs : List Int} {j : Nat} (h : isStart zs j = false) (h' : isEnd zs j = false) : piece zs j = [] := by
  unfold piece; rw [if_neg (by rw [h]; exact Bool.false_ne_true), if_neg (by rw [h']; exact Bool.false_ne_true)]

theorem sep_length (j : Nat) : (sep j).length ≤ 1 := by unfold sep; split <;> simp
theorem piece_length {zs : List Int} (hf : Fit zs) (j : Nat) : (piece zs j).length ≤ 22 := by
  have h1 := Lib.itoa_length_le _ (hf j).1 (hf j).2
  have h2 := sep_length j
  unfold piece
  split
  · rw [List.length_append]; omega
  · split
    · rw [List.length_cons]; omega
    · simp
theorem outTo_length {zs : List Int} (hf : Fit zs) (k : Nat) : (outTo zs k).length ≤ 22 * k := by
  induction k with
  | zero => simp [outTo]
  | succ k ih =>
    have := piece_length hf k
    show (outTo zs k ++ piece zs k).length ≤ _
    rw [List.length_append]; omega

theorem decDigits_ne (u : Nat) : Lib.decDigits u ≠ [] := by
  intro h
  have h1 := Lib.decDigits_length u
  have h2 := Lib.nDigits_pos u
  rw [h] at h1
  simp at h1
  omega
theorem itoa_ne (n : Int) : Lib.itoa n ≠ [] := by
  unfold Lib.itoa
  split
  · simp
  · exact decDigits_ne _
theorem outTo_pos (zs : List Int) (k : Nat) : outTo zs (k + 1) ≠ [] := by
  induction k with
  | zero =>
    show outTo zs 0 ++ piece zs 0 ≠ []
    rw [piece_start (isStart_zero zs)]
    have := itoa_ne (zs.getD 0 0)
    simp only [outTo, List.nil_append, ne_eq, List.append_eq_nil_iff, not_and]
    exact fun _ => this
  | succ k ih =>
    show outTo zs (k + 1) ++ piece zs (k + 1) ≠ []
    simp only [ne_eq, List.append_eq_nil_iff, not_and]
    exact fun h => absurd h ih

theorem outTo_ne (zs : List Int) (k : Nat) (h : 0 < k) : outTo zs k ≠ [] := by
  obtain ⟨m, rfl⟩ : ∃ m, k = m + 1 := ⟨k - 1, by omega⟩
  exact outTo_pos zs m

/-- A run from k to 'last': its inner elements add nothing. -/
theorem outTo_run_mid {zs : List Int} {k last : Nat} (hst : isStart zs k = true) (hrun : ∀ j, k < j → j ≤ last → zs.getD j 0 = wrap64 (zs.getD (j - 1) 0 + 1)) (hlt : last < zs.length) :
    ∀ m, k + m + 1 ≤ last + 1 → k + m + 1 ≤ last ∨ m = 0 → outTo zs (k + m + 1) = outTo zs k ++ (sep k ++ Lib.itoa (zs.getD k 0)) := by
  intro m
  induction m with
  | zero => intro _ _; show outTo zs k ++ piece zs k = _; rw [piece_start hst]
  | succ m ih =>
    intro h1 h2
    rcases h2 with h2 | h2
    · have e := ih (by omega) (by omega)
      show outTo zs (k + m + 1) ++ piece zs (k + m + 1) = _
      rw [e, piece_mid (isStart_false (by omega) (hrun _ (by omega) (by omega))) (isEnd_false (by omega) (by have := hrun (k + m + 1 + 1) (by omega) (by omega); simpa using this)), List.append_nil]
    · omega

/-- A run from k to 'last', whole. -/
theorem outTo_run {zs : List Int} {k last : Nat} (hst : isStart zs k = true) (hk : k ≤ last) (hrun : ∀ j, k < j → j ≤ last → zs.getD j 0 = wrap64 (zs.getD (j - 1) 0 + 1)) (hlt : last < zs.length) (hend : isEnd zs last = true) :
    outTo zs (last + 1) = if k < last then outTo zs k ++ (sep k ++ Lib.itoa (zs.getD k 0)) ++ 45 :: Lib.itoa (zs.getD last 0) else outTo zs k ++ (sep k ++ Lib.itoa (zs.getD k 0)) := by
  by_cases h : k < last
  · rw [if_pos h]
    obtain ⟨m, rfl⟩ : ∃ m, last = k + m + 1 := ⟨last - k - 1, by omega⟩
    have e := outTo_run_mid hst hrun hlt m (by omega) (by omega)
    show outTo zs (k + m + 1) ++ piece zs (k + m + 1) = _
    rw [e, piece_end (isStart_false (by omega) (hrun _ (by omega) (by omega))) hend]
  · rw [if_neg h]
    obtain rfl : last = k := by omega
    show outTo zs last ++ piece zs last = _
    rw [piece_start hst]

/-! ### The cut -/
theorem getD_left (a b : List Int) (j : Nat) (h : j < a.length) : (a ++ b).getD j 0 = a.getD j 0 := by
  simp [List.getD, List.getElem?_append_left h]
theorem getD_right (a b : List Int) (j : Nat) : (a ++ b).getD (a.length + j) 0 = b.getD j 0 := by
  simp [List.getD, List.getElem?_append_right]

theorem piece_left {a b : List Int} (hb : a ≠ [] → b ≠ [] → b.getD 0 0 ≠ wrap64 (a.getD (a.length - 1) 0 + 1)) {j : Nat} (h : j < a.length) : piece (a ++ b) j = piece a j := by
  have e0 := getD_left a b j h
  have e1 := getD_left a b (j - 1) (by omega)
  have es : isStart (a ++ b) j = isStart a j := by unfold isStart; rw [e0, e1]
  have ee : isEnd (a ++ b) j = isEnd a j := by
    by_cases hl : j + 1 = a.length
    · rw [isEnd_last hl]
      by_cases hbn : b = []
      · subst hbn; rw [List.append_nil, isEnd_last hl]
      · refine isEnd_of_ne ?_
        have := hb (by intro e; subst e; simp at h) hbn
        rw [e0, show j + 1 = a.length + 0 by omega, getD_right]
        rw [show a.length - 1 = j by omega] at this
        exact this
    · have e2 := getD_left a b (j + 1) (by omega)
      unfold isEnd
      rw [e0, e2, decide_eq_false hl, decide_eq_false (by rw [List.length_append]; omega)]
  unfold piece
  rw [es, ee, e0]
theorem piece_right_zero {a b : List Int} (hb : a ≠ [] → b ≠ [] → b.getD 0 0 ≠ wrap64 (a.getD (a.length - 1) 0 + 1)) (hbn : b ≠ []) : piece (a ++ b) (a.length + 0) = sep a.length ++ piece b 0 := by
  have hs : isStart (a ++ b) (a.length + 0) = true := by
    by_cases ha : a = []
    · subst ha; exact isStart_zero _
    · refine isStart_of_ne ?_
      have hp : 0 < a.length := List.length_pos_iff.2 ha
      have := hb ha hbn
      rw [getD_right, show a.length + 0 - 1 = a.length - 1 by omega, getD_left a b (a.length - 1) (by omega)]
      exact this
  rw [piece_start hs, piece_start (isStart_zero b), getD_right]
  simp [sep]
theorem piece_right_succ (a b : List Int) (m : Nat) : piece (a ++ b) (a.length + (m + 1)) = piece b (m + 1) := by
  have e0 := getD_right a b (m + 1)
  have e1 : (a ++ b).getD (a.length + (m + 1) - 1) 0 = b.getD (m + 1 - 1) 0 := by rw [show a.length + (m + 1) - 1 = a.length + m by omega, getD_right]; rfl
  have e2 : (a ++ b).getD (a.length + (m + 1) + 1) 0 = b.getD (m + 1 + 1) 0 := by rw [show a.length + (m + 1) + 1 = a.length + (m + 1 + 1) by omega, getD_right]
  have es : isStart (a ++ b) (a.length + (m + 1)) = isStart b (m + 1) := by
    have ed : decide (a.length + (m + 1) = 0) = decide (m + 1 = 0) := by rw [decide_eq_decide]; omega
    unfold isStart; rw [e0, e1, ed]
  have ee : isEnd (a ++ b) (a.length + (m + 1)) = isEnd b (m + 1) := by
    have ed : decide (a.length + (m + 1) + 1 = (a ++ b).length) = decide (m + 1 + 1 = b.length) := by
      rw [List.length_append, decide_eq_decide]; omega
    unfold isEnd; rw [e0, e2, ed]
  have esep : sep (a.length + (m + 1)) = sep (m + 1) := by unfold sep; rw [if_pos (by omega), if_pos (by omega)]
  unfold piece
  rw [es, ee, e0, esep]

theorem outTo_left {a b : List Int} (hb : a ≠ [] → b ≠ [] → b.getD 0 0 ≠ wrap64 (a.getD (a.length - 1) 0 + 1)) : ∀ j, j ≤ a.length → outTo (a ++ b) j = outTo a j
  | 0, _ => rfl
  | j + 1, h => by
    show outTo (a ++ b) j ++ piece (a ++ b) j = outTo a j ++ piece a j
    rw [outTo_left hb j (by omega), piece_left hb (by omega)]
theorem outTo_right {a b : List Int} (hb : a ≠ [] → b ≠ [] → b.getD 0 0 ≠ wrap64 (a.getD (a.length - 1) 0 + 1)) (hbn : b ≠ []) : ∀ m, outTo (a ++ b) (a.length + m + 1) = outTo a a.length ++ (sep a.length ++ outTo b (m + 1))
  | 0 => by
    show outTo (a ++ b) (a.length + 0) ++ piece (a ++ b) (a.length + 0) = _ ++ (_ ++ (outTo b 0 ++ piece b 0))
    rw [piece_right_zero hb hbn]
    show outTo (a ++ b) a.length ++ _ = _
    rw [outTo_left hb _ (Nat.le_refl _)]
    rfl
  | m + 1 => by
    show outTo (a ++ b) (a.length + m + 1) ++ piece (a ++ b) (a.length + (m + 1)) = _ ++ (_ ++ (outTo b (m + 1) ++ piece b (m + 1)))
    rw [piece_right_succ, outTo_right hb hbn m]
    simp only [List.append_assoc]

/-- THE CUT: the texts of the two parts, joined by a comma where neither is empty. -/
theorem out_append {a b : List Int} (hb : a ≠ [] → b ≠ [] → b.getD 0 0 ≠ wrap64 (a.getD (a.length - 1) 0 + 1)) :
    out (a ++ b) = if a = [] then out b else if b = [] then out a else out a ++ 44 :: out b := by
  by_cases ha : a = []
  · rw [if_pos ha]; subst ha; rfl
  · rw [if_neg ha]
    by_cases hbn : b = []
    · rw [if_pos hbn]; subst hbn; rw [List.append_nil]
    · rw [if_neg hbn]
      unfold out
      have hp : 0 < b.length := List.length_pos_iff.2 hbn
      have hpa : 0 < a.length := List.length_pos_iff.2 ha
      obtain ⟨m, hm⟩ : ∃ m, b.length = m + 1 := ⟨b.length - 1, by omega⟩
      rw [List.length_append, hm, ← Nat.add_assoc, outTo_right hb hbn m]
      unfold sep
      rw [if_pos hpa]
      rfl
theorem out_nil : out [] = [] := rfl
theorem out_ne {zs : List Int} (h : zs ≠ []) : out zs ≠ [] := by
  have hp : 0 < zs.length := List.length_pos_iff.2 h
  obtain ⟨m, hm⟩ : ∃ m, zs.length = m + 1 := ⟨zs.length - 1, by omega⟩
  unfold out; rw [hm]; exact outTo_pos zs m

/-! ### The commas -/
theorem dg_ne (u j : Nat) : Lib.dg u j ≠ 44 := by
  unfold Lib.dg
  generalize hd : u / 10 ^ j % 10 = d
  have hm : d < 10 := by rw [← hd]; exact Nat.mod_lt _ (by decide)
  have key : ∀ d : Fin 10, UInt8.ofNat (48 + d.val) ≠ 44 := by decide
  exact key ⟨d, hm⟩
theorem count_dec (u : Nat) : (Lib.decDigits u).count 44 = 0 := by
  rw [Lib.decDigits_eq, List.count_eq_zero]
  intro h
  obtain ⟨t, _, ht⟩ := List.mem_map.1 h
  exact dg_ne _ _ ht
theorem count_itoa (n : Int) : (Lib.itoa n).count 44 = 0 := by
  unfold Lib.itoa
  split
  · rw [List.count_cons, count_dec]; rfl
  · exact count_dec _
theorem count_piece (zs : List Int) (j : Nat) : (piece zs j).count 44 = if 0 < j ∧ isStart zs j = true then 1 else 0 := by
  by_cases hs : isStart zs j = true
  · rw [piece_start hs, List.count_append, count_itoa]
    unfold sep
    by_cases h : 0 < j
    · rw [if_pos h, if_pos ⟨h, hs⟩]; rfl
    · rw [if_neg h, if_neg (fun x => h x.1)]; rfl
  · rw [if_neg (fun x => hs x.2)]
    unfold piece
    rw [if_neg hs]
    split
    · rw [List.count_cons, count_itoa]; rfl
    · rfl
theorem count_outTo (zs : List Int) : ∀ k, (outTo zs k).count 44 = breaks zs k
  | 0 => rfl
  | k + 1 => by
    show (outTo zs k ++ piece zs k).count 44 = breaks zs k + _
    rw [List.count_append, count_outTo zs k, count_piece]
theorem breaks_le (zs : List Int) : ∀ k, breaks zs k ≤ k
  | 0 => Nat.le_refl _
  | k + 1 => by
    have := breaks_le zs k
    show breaks zs k + _ ≤ _
    split <;> omega
theorem breaks_one (zs : List Int) : breaks zs 1 = 0 := rfl
theorem breaks_hit {zs : List Int} {k : Nat} (h0 : 0 < k) (h : zs.getD k 0 ≠ wrap64 (zs.getD (k - 1) 0 + 1)) : breaks zs (k + 1) = breaks zs k + 1 := by
  show breaks zs k + _ = _
  rw [if_pos ⟨h0, isStart_of_ne h⟩]
theorem breaks_miss {zs : List Int} {k : Nat} (h0 : 0 < k) (h : zs.getD k 0 = wrap64 (zs.getD (k - 1) 0 + 1)) : breaks zs (k + 1) = breaks zs k := by
  show breaks zs k + _ = _
  rw [if_neg (fun x => by rw [isStart_false (by omega) h] at x; exact Bool.false_ne_true x.2)]
  rfl
end Pl
end Go.Proofs.Qxb6620856aDoor
