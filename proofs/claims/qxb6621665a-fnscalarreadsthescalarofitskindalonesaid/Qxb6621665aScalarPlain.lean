/-
  PLAIN: 'scalar' answers the scalar of its kind alone.
-/
import Derived.Test.Qxb6621665aScalarAt
namespace Go.Proofs.Qxb6621665a

theorem word_head {zs : List Int} {i : Nat} {c : UInt8} {ws : List UInt8} (h : wordAt zs i (c :: ws) = true) : zs.getD i 0 = (c.toNat : Int) := by
  unfold wordAt at h
  have e := of_decide_eq_true h
  have e1 : ((zs.drop i).take (c :: ws).length)[0]? = (nums (c :: ws))[0]? := by rw [e]
  have e2 : (nums (c :: ws))[0]? = some (c.toNat : Int) := by simp [nums]
  rw [e2, List.getElem?_take, if_pos (by simp), List.getElem?_drop] at e1
  simp only [Nat.add_zero] at e1
  simp [List.getD, e1]
theorem word_ne {zs : List Int} {i : Nat} {c : UInt8} {ws : List UInt8} (h : zs.getD i 0 ≠ (c.toNat : Int)) : wordAt zs i (c :: ws) = false := by
  cases e : wordAt zs i (c :: ws)
  · rfl
  · exact absurd (word_head e) h
theorem no_number {zs : List Int} {i : Nat} (hi : i < zs.length) (h : zs.getD i 0 ≠ 45) (h' : ¬ (48 ≤ zs.getD i 0 ∧ zs.getD i 0 ≤ 57)) : Pl.aut 0 (zs.drop i) = none := by
  rw [drop_at hi, Pl.aut0_else _ (fun c r e => by injection e with e1 _; rw [← e1]; exact h)]
  exact Pl.aut1_else _ (fun c r e => by injection e with e1 _; rw [← e1]; exact h')
theorem want_end (zs : List Int) (i : Nat) : Pl.endAt i (Pl.aut 0 (zs.drop i)) = wantOf i (Pl.run 0 (zs.drop i)) := by
  rw [Pl.endAt_aut]; rfl

theorem litF_true {zs : List Int} {i : Nat} {ws : List UInt8} (h : wordAt zs i ws = true) : litF zs i ws = i + ws.length := by unfold litF; rw [if_pos h]
theorem litF_false {zs : List Int} {i : Nat} {ws : List UInt8} (h : wordAt zs i ws = false) : litF zs i ws = 0 := by unfold litF; rw [h]; rfl

theorem scal3 (zs : List Int) (i : Nat) : scalF zs i 3 = wantOf i (Pl.run 0 (zs.drop i)) := by
  unfold scalF; rw [if_pos rfl, want_end]
theorem scal2 (zs : List Int) (i : Nat) : scalF zs i 2 = if zs.getD i 0 = 116 then litF zs i wTrue else litF zs i wFalse := by
  unfold scalF; rw [if_neg (by omega), if_pos rfl]
theorem scal1 (zs : List Int) (i : Nat) : scalF zs i 1 = litF zs i wNull := by
  unfold scalF; rw [if_neg (by omega), if_neg (by omega), if_pos rfl]
theorem scal_other {zs : List Int} {i : Nat} {kd : Int} (h3 : kd ≠ 3) (h2 : kd ≠ 2) (h1 : kd ≠ 1) : scalF zs i kd = 0 := by
  unfold scalF; rw [if_neg h3, if_neg h2, if_neg h1]

/-- What is known of the scalar at i. -/
theorem scal_cases {zs : List Int} {i : Nat} (hi : i < zs.length) :
    (scalAt zs i = (i + 4, 2) ∧ zs.getD i 0 = 116 ∧ scalF zs i 3 = 0 ∧ scalF zs i 2 = i + 4 ∧ scalF zs i 1 = 0) ∨
    (scalAt zs i = (i + 5, 2) ∧ zs.getD i 0 = 102 ∧ scalF zs i 3 = 0 ∧ scalF zs i 2 = i + 5 ∧ scalF zs i 1 = 0) ∨
    (scalAt zs i = (i + 4, 1) ∧ zs.getD i 0 = 110 ∧ scalF zs i 3 = 0 ∧ scalF zs i 2 = 0 ∧ scalF zs i 1 = i + 4) ∨
    (∃ W, 0 < W ∧ scalAt zs i = (W, 3) ∧ (zs.getD i 0 = 45 ∨ (48 ≤ zs.getD i 0 ∧ zs.getD i 0 ≤ 57)) ∧ scalF zs i 3 = W ∧ scalF zs i 2 = 0 ∧ scalF zs i 1 = 0) ∨
    (scalAt zs i = (0, 0) ∧ scalF zs i 3 = 0 ∧ scalF zs i 2 = 0 ∧ scalF zs i 1 = 0) := by
  have none0 : ∀ {c : Int}, zs.getD i 0 = c → c ≠ 45 → ¬ (48 ≤ c ∧ c ≤ 57) → scalF zs i 3 = 0 := by
    intro c hc h1 h2
    rw [scal3, ← want_end, no_number hi (by rw [hc]; exact h1) (by rw [hc]; exact h2)]; rfl
  by_cases hA : wordAt zs i wTrue = true
  · have hh : zs.getD i 0 = 116 := word_head hA
    refine .inl ⟨by unfold scalAt; rw [if_pos hA], hh, none0 hh (by omega) (by omega), ?_, ?_⟩
    · rw [scal2, if_pos hh, litF_true hA]; rfl
    · rw [scal1, litF_false (word_ne (by rw [hh]; decide))]
  · have hA' : wordAt zs i wTrue = false := by simpa using hA
    by_cases hB : wordAt zs i wFalse = true
    · have hh : zs.getD i 0 = 102 := word_head hB
      refine .inr (.inl ⟨by unfold scalAt; rw [if_neg hA, if_pos hB], hh, none0 hh (by omega) (by omega), ?_, ?_⟩)
      · rw [scal2, if_neg (by omega), litF_true hB]; rfl
      · rw [scal1, litF_false (word_ne (by rw [hh]; decide))]
    · have hB' : wordAt zs i wFalse = false := by simpa using hB
      have h2 : scalF zs i 2 = 0 := by
        rw [scal2]
        split
        · exact litF_false hA'
        · exact litF_false hB'
      by_cases hC : wordAt zs i wNull = true
      · have hh : zs.getD i 0 = 110 := word_head hC
        refine .inr (.inr (.inl ⟨by unfold scalAt; rw [if_neg hA, if_neg hB, if_pos hC], hh, none0 hh (by omega) (by omega), h2, ?_⟩))
        rw [scal1, litF_true hC]; rfl
      · have hC' : wordAt zs i wNull = false := by simpa using hC
        have h1 : scalF zs i 1 = 0 := by rw [scal1, litF_false hC']
        by_cases hW : 0 < wantOf i (Pl.run 0 (zs.drop i))
        · refine .inr (.inr (.inr (.inl ⟨_, hW, by unfold scalAt; rw [if_neg hA, if_neg hB, if_neg hC, if_pos hW], ?_, scal3 zs i, h2, h1⟩)))
          refine Decidable.by_contra fun hn => ?_
          rw [← want_end, no_number hi (fun e => hn (.inl e)) (fun e => hn (.inr e))] at hW
          exact absurd hW (Nat.lt_irrefl 0)
        · refine .inr (.inr (.inr (.inr ⟨by unfold scalAt; rw [if_neg hA, if_neg hB, if_neg hC, if_neg hW], ?_, h2, h1⟩)))
          rw [scal3]; omega

/-- THE PLAIN LAW. -/
theorem scal_law {zs : List Int} {i : Nat} (hi : i < zs.length) (kd : Int) : scalF zs i kd = if 0 < (scalAt zs i).1 ∧ kd = (scalAt zs i).2 then (scalAt zs i).1 else 0 := by
  by_cases h3 : kd = 3
  · subst h3
    rcases scal_cases hi with ⟨e, _, a3, a2, a1⟩ | ⟨e, _, a3, a2, a1⟩ | ⟨e, _, a3, a2, a1⟩ | ⟨W, hW, e, _, a3, a2, a1⟩ | ⟨e, a3, a2, a1⟩
    all_goals rw [e, a3]
    · rw [if_neg (fun h => by have := h.2; simp at this)]
    · rw [if_neg (fun h => by have := h.2; simp at this)]
    · rw [if_neg (fun h => by have := h.2; simp at this)]
    · rw [if_pos ⟨hW, rfl⟩]
    · rw [if_neg (fun h => by have := h.1; simp at this)]
  · by_cases h2 : kd = 2
    · subst h2
      rcases scal_cases hi with ⟨e, _, a3, a2, a1⟩ | ⟨e, _, a3, a2, a1⟩ | ⟨e, _, a3, a2, a1⟩ | ⟨W, hW, e, _, a3, a2, a1⟩ | ⟨e, a3, a2, a1⟩
      all_goals rw [e, a2]
      · rw [if_pos ⟨by omega, rfl⟩]
      · rw [if_pos ⟨by omega, rfl⟩]
      · rw [if_neg (fun h => by have := h.2; simp at this)]
      · rw [if_neg (fun h => by have := h.2; simp at this)]
      · rw [if_neg (fun h => by have := h.1; simp at this)]
    · by_cases h1 : kd = 1
      · subst h1
        rcases scal_cases hi with ⟨e, _, a3, a2, a1⟩ | ⟨e, _, a3, a2, a1⟩ | ⟨e, _, a3, a2, a1⟩ | ⟨W, hW, e, _, a3, a2, a1⟩ | ⟨e, a3, a2, a1⟩
        all_goals rw [e, a1]
        · rw [if_neg (fun h => by have := h.2; simp at this)]
        · rw [if_neg (fun h => by have := h.2; simp at this)]
        · rw [if_pos ⟨by omega, rfl⟩]
        · rw [if_neg (fun h => by have := h.2; simp at this)]
        · rw [if_neg (fun h => by have := h.1; simp at this)]
      · rw [scal_other h3 h2 h1]
        rcases scal_cases hi with ⟨e, _⟩ | ⟨e, _⟩ | ⟨e, _⟩ | ⟨W, hW, e, _⟩ | ⟨e, _⟩
        all_goals rw [e, if_neg]
        all_goals intro h
        · exact h2 h.2
        · exact h2 h.2
        · exact h1 h.2
        · exact h3 h.2
        · have := h.1; simp at this
/-- The first byte names the scalar's kind. -/
theorem scal_kind {zs : List Int} {i : Nat} (hi : i < zs.length) (h : 0 < (scalAt zs i).1) : kindF (zs.getD i 0) = (scalAt zs i).2 := by
  rcases scal_cases hi with ⟨e, hh, _⟩ | ⟨e, hh, _⟩ | ⟨e, hh, _⟩ | ⟨W, hW, e, hh, _⟩ | ⟨e, _⟩
  · rw [e, hh]; rfl
  · rw [e, hh]; rfl
  · rw [e, hh]; rfl
  · rw [e]
    unfold kindF
    rw [if_neg (by omega), if_neg (by omega), if_neg (by omega), if_pos (by omega)]
  · rw [e] at h; exact absurd h (by decide)
theorem scal_bound {zs : List Int} {i n : Nat} (hz : zs.length = n) (hi : i < n) : (scalAt zs i).1 ≤ n + 5 := by
  have h1 := Pl.run_le (zs.drop i) 0
  rw [List.length_drop] at h1
  unfold scalAt
  repeat' split
  all_goals simp only
  all_goals (try unfold wantOf)
  all_goals (try split)
  all_goals omega
end Go.Proofs.Qxb6621665a
