/-
  zzNumberWalk: where the table stops, and what it says of the cut text.
-/
import Derived.Test.Qxb6621665aDigits
import Derived.Deep.DeepCutAuto
namespace Go.Proofs.Qxb6621665a
open Go.ChangeShapes Go.WideShapes Go.ChangeAt Go.RowKit

theorem step_range {s c : Int} (h0 : 0 ≤ s) (h1 : s ≤ 8) : Pl.step s c = -1 ∨ (0 ≤ Pl.step s c ∧ Pl.step s c ≤ 8) := by
  rcases states h0 h1 with rfl | rfl | rfl | rfl | rfl | rfl | rfl | rfl | rfl
  all_goals
    first | rw [Pl.step0] | rw [Pl.step1] | rw [Pl.step2] | rw [Pl.step3] | rw [Pl.step4] | rw [Pl.step5] | rw [Pl.step6] | rw [Pl.step7] | rw [Pl.step8]
    repeat' split
    all_goals omega

/-- The table has read q bytes. -/
def Read (zs : List Int) (i q : Nat) (s : Int) : Prop := i + q ≤ zs.length ∧ s = Pl.stateAt 0 (zs.drop i) q ∧ 0 ≤ s ∧ s ≤ 8 ∧ ∀ j, j < q → 0 ≤ Pl.stateAt 0 (zs.drop i) (j + 1)
theorem Read.zero {zs : List Int} {i : Nat} (h : i ≤ zs.length) : Read zs i 0 0 := ⟨by omega, by simp [Pl.stateAt], by omega, by omega, fun j hj => by omega⟩
theorem drop_get {zs : List Int} {i q : Nat} (h : i + q < zs.length) : (zs.drop i)[q]'(by rw [List.length_drop]; omega) = zs.getD (i + q) 0 := by
  simp [List.getElem_drop, List.getD, h]
theorem Read.succ {zs : List Int} {i q : Nat} {s c : Int} (h : Read zs i q s) (hl : i + q < zs.length) (hc : c = zs.getD (i + q) 0) (hs : ¬ Pl.step s c < 0) : Read zs i (q + 1) (Pl.step s c) := by
  obtain ⟨h1, h2, h3, h4, h5⟩ := h
  have e : Pl.stateAt 0 (zs.drop i) (q + 1) = Pl.step s c := by
    rw [Pl.stateAt_succ _ _ _ (by rw [List.length_drop]; omega), drop_get hl, ← hc, ← h2]
  have hr := step_range (c := c) h3 h4
  refine ⟨by omega, e.symm, by omega, by omega, fun j hj => ?_⟩
  by_cases hj' : j < q
  · exact h5 j hj'
  · obtain rfl : j = q := by omega
    rw [e]; omega
theorem Read.stop {zs : List Int} {i q : Nat} {s : Int} (h : Read zs i q s) (hs : ∀ _ : i + q < zs.length, Pl.step s (zs.getD (i + q) 0) < 0) : Pl.run 0 (zs.drop i) = (q, s) := by
  obtain ⟨h1, h2, h3, h4, h5⟩ := h
  rw [h2]
  refine Pl.run_stop _ _ _ (by rw [List.length_drop]; omega) h5 (fun hq => ?_)
  rw [List.length_drop] at hq
  rw [drop_get (by omega), ← h2]
  exact hs (by omega)

/-- The two answers, out of the table's run. -/
def wantOf (i : Nat) (r : Nat × Int) : Nat := if Pl.acc r.2 = true then i + r.1 else 0

/-- What the table says of the text cut at k. -/
def secOf (i k : Nat) (l : List Int) : Nat := if i < k then Pl.cutEnd i k l else if k < i + (Pl.run 0 l).1 then 0 else wantOf i (Pl.run 0 l)
theorem sec_eq {i k q : Nat} {l : List Int} {s t : Int} (hr : Pl.run 0 l = (q, s)) (ht : (i < k ∧ k ≤ i + q → t = Pl.stateAt 0 l (k - i)) ∧ (¬ (i < k ∧ k ≤ i + q) → t = -1)) :
    secOf i k l = if k < i + q then (if Pl.acc t = true then k else 0) else (if Pl.acc s = true then i + q else 0) := by
  unfold secOf
  by_cases hik : i < k
  · rw [if_pos hik]
    unfold Pl.cutEnd
    rw [Pl.endAt_aut, hr]
    by_cases hk : k < i + q
    · rw [if_pos hk, if_pos hk, ht.1 ⟨hik, by omega⟩]
    · rw [if_neg hk, if_neg hk]
  · rw [if_neg hik, hr]
    by_cases hk : k < i + q
    · have e := ht.2 (fun h => hik h.1)
      subst e
      rw [if_pos hk, if_pos hk]; rfl
    · rw [if_neg hk, if_neg hk]; rfl
theorem ret_two {a b c d : Int} (h1 : a = b) (h2 : c = d) : Ending.returned (.tuple #[.int .i64 a, .int .i64 c]) = .returned (.tuple #[.int .i64 b, .int .i64 d]) := by rw [h1, h2]
theorem tt_next {zs : List Int} {i k q : Nat} {t : Int} {s2 : Int} (h : (i < k ∧ k ≤ i + q → t = Pl.stateAt 0 (zs.drop i) (k - i)) ∧ (¬ (i < k ∧ k ≤ i + q) → t = -1)) (_hk : ¬ i + (q + 1) = k) (_hs : s2 = Pl.stateAt 0 (zs.drop i) (q + 1)) :
    (i < k ∧ k ≤ i + (q + 1) → t = Pl.stateAt 0 (zs.drop i) (k - i)) ∧ (¬ (i < k ∧ k ≤ i + (q + 1)) → t = -1) :=
  ⟨fun h1 => h.1 ⟨h1.1, by omega⟩, fun h1 => h.2 (fun h2 => h1 ⟨h2.1, by omega⟩)⟩
theorem tt_hit {zs : List Int} {i k q : Nat} {s2 : Int} (_hk : i + (q + 1) = k) (hs : s2 = Pl.stateAt 0 (zs.drop i) (q + 1)) :
    (i < k ∧ k ≤ i + (q + 1) → s2 = Pl.stateAt 0 (zs.drop i) (k - i)) ∧ (¬ (i < k ∧ k ≤ i + (q + 1)) → s2 = -1) :=
  ⟨fun _ => by rw [hs, show k - i = q + 1 by omega], fun h => absurd ⟨by omega, by omega⟩ h⟩

set_option maxHeartbeats 2000000 in
set_option maxRecDepth 10000 in
theorem walkN_any (b off n cap : Nat) (zs : List Int) (i k : Nat) (w : World) (h : Text b off n zs w) (hi : i ≤ n) :
    Calls Try.prog 7 #[.slice (some ⟨b, off, none⟩) n cap, .int .i64 i, .int .i64 k] w fun e w' =>
      e = .returned (.tuple #[.int .i64 (wantOf i (Pl.run 0 (zs.drop i)) : Nat), .int .i64 (secOf i k (zs.drop i) : Nat)]) ∧ w' = w := by
  have HT : Hid (Text b off n zs w) := h
  have hsm := h.small
  clear h
  go_enter Try.func7, Try.ntmps7
  go_wp2
  go_loop [8, 9, 10] (fun st sk j => ∃ (q : Nat) (s t : Int), st = .int .i64 s ∧ sk = .int .i64 t ∧ j = .int .i64 (i + q : Nat) ∧ Read zs i q s ∧ ((i < k ∧ k ≤ i + q → t = Pl.stateAt 0 (zs.drop i) (k - i)) ∧ (¬ (i < k ∧ k ≤ i + q) → t = -1)))
    (fun _ _ j => n - (intOf j).toNat)
  case atStart => exact ⟨0, 0, -1, rfl, rfl, rfl, Read.zero (by rw [HT.out.len]; exact hi), fun h => by omega, fun _ => rfl⟩
  case round =>
    obtain ⟨q, s, t, rfl, rfl, rfl, hR, hT⟩ := hrel
    have HR : Hid (Read zs i q s) := hR
    have HTT := (show Hid _ from hT)
    have hs0 := hR.2.2.1
    have hs1 := hR.2.2.2.1
    have hqn : i + q ≤ n := by have := hR.1; rw [HT.out.len] at this; exact this
    clear hR hT
    by_cases hlt : i + q < n
    · obtain ⟨c, hcz⟩ : ∃ c, c = zs.getD (i + q) 0 := ⟨_, rfl⟩
      have hck : w.cell? ⟨b, off + (i + q), none⟩ = some (.int .u8 c) := by rw [hcz]; exact HT.out.cell (i + q) hlt
      have HCZ := (show Hid _ from hcz)
      clear hcz
      obtain ⟨s2, hs2⟩ : ∃ s2, s2 = Pl.step s c := ⟨_, rfl⟩
      have HS2 := (show Hid _ from hs2)
      clear hs2
      by_cases hneg : s2 < 0
      · have HRUN : Hid (Pl.run 0 (zs.drop i) = (q, s)) := HR.out.stop (fun _ => by rw [← HCZ.out, ← HS2.out]; exact hneg)
        go_wp2_with fail
        refine (step_any _ _ _ hs0 hs1).mono ?_
        rintro e w2 ⟨rfl, hw2⟩
        rw [hw2, ← HS2.out]
        clear hw2 w2
        have HW : Hid (wantOf i (Pl.run 0 (zs.drop i)) = if Pl.acc s = true then i + q else 0) := by show _ = _; rw [HRUN.out]; rfl
        have HS : Hid (secOf i k (zs.drop i) = if k < i + q then (if Pl.acc t = true then k else 0) else (if Pl.acc s = true then i + q else 0)) := sec_eq HRUN.out HTT.out
        go_wp2_with fail
        refine (accepts_any _ _).mono ?_
        rintro e w2 ⟨rfl, hw2⟩
        rw [hw2]
        clear hw2 w2
        obtain ⟨A, hA⟩ : ∃ A, A = Pl.acc s := ⟨_, rfl⟩
        rw [← hA]
        have HA := (show Hid _ from hA)
        clear hA
        by_cases hkj : k < i + q
        · have HKJ := (show Hid _ from hkj)
          cases A
          all_goals
            go_wp2_with fail
            refine (accepts_any _ _).mono ?_
            rintro e w2 ⟨rfl, hw2⟩
            rw [hw2]
            clear hw2 w2
            obtain ⟨B, hB⟩ : ∃ B, B = Pl.acc t := ⟨_, rfl⟩
            rw [← hB]
            have HB := (show Hid _ from hB)
            clear hB
            cases B
            all_goals
              go_wp2
              go_ret2
              exact ⟨ret_two (by rw [HW.out, ← HA.out]; first | rfl | (rw [if_pos rfl]; go_num)) (by rw [HS.out, if_pos HKJ.out, ← HB.out]; rfl), rfl⟩
        · have HKJ := (show Hid _ from hkj)
          cases A
          all_goals
            go_wp2
            go_ret2
            exact ⟨ret_two (by rw [HW.out, ← HA.out]; first | rfl | (rw [if_pos rfl]; go_num)) (by rw [HS.out, if_neg HKJ.out, ← HA.out]; first | rfl | (rw [if_pos rfl]; go_num)), rfl⟩
      · have HR2 : Hid (Read zs i (q + 1) s2) := by
          show Read _ _ _ _
          rw [HS2.out]
          exact HR.out.succ (by rw [HT.out.len]; exact hlt) HCZ.out (by rw [← HS2.out]; exact hneg)
        by_cases hjk : i + (q + 1) = k
        · have hb0 : (((i : Int) + (q : Int) + 1) == (k : Int)) = true := beq_iff_eq.2 (by omega)
          have HJK := (show Hid _ from hjk)
          clear hjk
          go_wp2_with fail
          refine (step_any _ _ _ hs0 hs1).mono ?_
          rintro e w2 ⟨rfl, hw2⟩
          rw [hw2, ← HS2.out]
          clear hw2 w2
          go_wp2
          go_round
          case rel => exact ⟨q + 1, s2, s2, rfl, rfl, by go_num, HR2.out, tt_hit HJK.out HR2.out.2.1⟩
          case measure => simp [intOf]; omega
        · have hb0 : (((i : Int) + (q : Int) + 1) == (k : Int)) = false := beq_eq_false_iff_ne.2 (by omega)
          go_wp2_with fail
          refine (step_any _ _ _ hs0 hs1).mono ?_
          rintro e w2 ⟨rfl, hw2⟩
          rw [hw2, ← HS2.out]
          clear hw2 w2
          go_wp2
          go_round
          case rel => exact ⟨q + 1, s2, t, rfl, rfl, by go_num, HR2.out, tt_next HTT.out hjk HR2.out.2.1⟩
          case measure => simp [intOf]; omega
    · have HRUN : Hid (Pl.run 0 (zs.drop i) = (q, s)) := HR.out.stop (fun h => absurd h (by rw [HT.out.len]; exact hlt))
      have HW : Hid (wantOf i (Pl.run 0 (zs.drop i)) = if Pl.acc s = true then i + q else 0) := by show _ = _; rw [HRUN.out]; rfl
      have HS : Hid (secOf i k (zs.drop i) = if k < i + q then (if Pl.acc t = true then k else 0) else (if Pl.acc s = true then i + q else 0)) := sec_eq HRUN.out HTT.out
      go_wp2_with fail
      refine (accepts_any _ _).mono ?_
      rintro e w2 ⟨rfl, hw2⟩
      rw [hw2]
      clear hw2 w2
      obtain ⟨A, hA⟩ : ∃ A, A = Pl.acc s := ⟨_, rfl⟩
      rw [← hA]
      have HA := (show Hid _ from hA)
      clear hA
      by_cases hkj : k < i + q
      · have HKJ := (show Hid _ from hkj)
        cases A
        all_goals
          go_wp2_with fail
          refine (accepts_any _ _).mono ?_
          rintro e w2 ⟨rfl, hw2⟩
          rw [hw2]
          clear hw2 w2
          obtain ⟨B, hB⟩ : ∃ B, B = Pl.acc t := ⟨_, rfl⟩
          rw [← hB]
          have HB := (show Hid _ from hB)
          clear hB
          cases B
          all_goals
            go_wp2
            go_ret2
            exact ⟨ret_two (by rw [HW.out, ← HA.out]; first | rfl | (rw [if_pos rfl]; go_num)) (by rw [HS.out, if_pos HKJ.out, ← HB.out]; rfl), rfl⟩
      · have HKJ := (show Hid _ from hkj)
        cases A
        all_goals
          go_wp2
          go_ret2
          exact ⟨ret_two (by rw [HW.out, ← HA.out]; first | rfl | (rw [if_pos rfl]; go_num)) (by rw [HS.out, if_neg HKJ.out, ← HA.out]; first | rfl | (rw [if_pos rfl]; go_num)), rfl⟩
end Go.Proofs.Qxb6621665a
