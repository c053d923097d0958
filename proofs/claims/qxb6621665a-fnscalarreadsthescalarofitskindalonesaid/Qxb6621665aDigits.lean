/-
  digits, zzNumberStep, zzNumberAccepts.
-/
import Derived.Test.Qxb6621665aKind
import Derived.Test.Qxb6621665aPlain
namespace Go.Proofs.Qxb6621665a
open Go.ChangeShapes Go.WideShapes Go.ChangeAt Go.RowKit

/-- A slice of bytes, in memory. -/
structure Text (b off n : Nat) (zs : List Int) (w : World) : Prop where
  len : zs.length = n
  small : n ≤ 2097152
  cell : ∀ j, j < n → w.cell? ⟨b, off + j, none⟩ = some (.int .u8 (zs.getD j 0))

theorem drop_at {zs : List Int} {k : Nat} (h : k < zs.length) : zs.drop k = zs.getD k 0 :: zs.drop (k + 1) := by
  rw [List.drop_eq_getElem_cons h]
  simp [List.getD, h]

/-- What 'digits' answers at i. -/
def digEnd (zs : List Int) (i : Nat) : Nat := if Pl.lead (zs.drop i) = 0 then 0 else i + Pl.lead (zs.drop i)
theorem digEnd_of {zs : List Int} {i k : Nat} (h : Pl.lead (zs.drop i) = k - i) (hk : i ≤ k) : digEnd zs i = if k = i then 0 else k := by
  unfold digEnd
  rw [h]
  by_cases e : k = i
  · rw [if_pos (by omega), if_pos e]
  · rw [if_neg (by omega), if_neg e]; omega

set_option maxHeartbeats 400000 in
theorem digits_any (b off n cap : Nat) (zs : List Int) (z : Int) (i : Nat) (w : World) (h : Text b off n zs w) (hzi : z = (i : Int)) (hi : i ≤ n) :
    Calls Try.prog 19 #[.slice (some ⟨b, off, none⟩) n cap, .int .i64 z] w fun e w' => e = .returned (.int .i64 (digEnd zs i : Nat)) ∧ w' = w := by
  subst hzi
  have HT : Hid (Text b off n zs w) := h
  have hsm := h.small
  clear h
  go_enter Try.func19, Try.ntmps19
  go_wp2
  go_loop [1] (fun t => ∃ k : Nat, i ≤ k ∧ k ≤ n ∧ t = .int .i64 k ∧ Pl.lead (zs.drop i) = (k - i) + Pl.lead (zs.drop k)) (fun t => n - (intOf t).toNat)
  case atStart => exact ⟨i, Nat.le_refl _, hi, rfl, by omega⟩
  case round =>
    obtain ⟨k, hik, hkn, rfl, hlead⟩ := hrel
    have HL := (show Hid _ from hlead)
    clear hlead
    by_cases hlt : k < n
    · obtain ⟨c, hcz⟩ : ∃ c, c = zs.getD k 0 := ⟨_, rfl⟩
      have hck : w.cell? ⟨b, off + k, none⟩ = some (.int .u8 c) := by rw [hcz]; exact HT.out.cell k hlt
      have HD : Hid (zs.drop k = c :: zs.drop (k + 1)) := by show _ = _; rw [hcz]; exact drop_at (by rw [HT.out.len]; exact hlt)
      clear hcz
      by_cases hd : 48 ≤ c ∧ c ≤ 57
      · obtain ⟨hd1, hd2⟩ := hd
        have HN : Hid (Pl.lead (zs.drop i) = (k + 1 - i) + Pl.lead (zs.drop (k + 1))) := by
          have h1 := HL.out
          rw [HD.out, Pl.lead_hit (Pl.dig_true.2 ⟨hd1, hd2⟩)] at h1
          show _ = _
          omega
        go_wp2
        go_round
        case rel => exact ⟨k + 1, by omega, by omega, by go_num, HN.out⟩
        case measure => simp [intOf]; omega
      · have HN : Hid (digEnd zs i = if k = i then 0 else k) := by
          have h1 := HL.out
          rw [HD.out, Pl.lead_miss (Pl.dig_false.2 hd)] at h1
          exact digEnd_of (by omega) hik
        clear HL HD
        by_cases hlo : c < 48
        · clear hd
          by_cases hki : k = i
          · have HKI := (show Hid _ from hki)
            have hb0 : ((k : Int) == (i : Int)) = true := beq_iff_eq.2 (by omega)
            clear hki
            go_wp2
            go_ret
            exact ⟨ret_int (by rw [HN.out, if_pos HKI.out]; rfl), rfl⟩
          · have hb0 : ((k : Int) == (i : Int)) = false := beq_eq_false_iff_ne.2 (by omega)
            go_wp2
            go_ret
            exact ⟨ret_int (by rw [HN.out, if_neg hki]), rfl⟩
        · have hhi : 57 < c := by omega
          clear hd
          by_cases hki : k = i
          · have HKI := (show Hid _ from hki)
            have hb0 : ((k : Int) == (i : Int)) = true := beq_iff_eq.2 (by omega)
            clear hki
            go_wp2
            go_ret
            exact ⟨ret_int (by rw [HN.out, if_pos HKI.out]; rfl), rfl⟩
          · have hb0 : ((k : Int) == (i : Int)) = false := beq_eq_false_iff_ne.2 (by omega)
            go_wp2
            go_ret
            exact ⟨ret_int (by rw [HN.out, if_neg hki]), rfl⟩
    · have HN : Hid (digEnd zs i = if k = i then 0 else k) := by
        have h1 := HL.out
        rw [List.drop_eq_nil_iff.2 (show zs.length ≤ k by rw [HT.out.len]; omega)] at h1
        have h2 : Pl.lead [] = 0 := rfl
        exact digEnd_of (by omega) hik
      clear HL
      by_cases hki : k = i
      · have HKI := (show Hid _ from hki)
        have hb0 : ((k : Int) == (i : Int)) = true := beq_iff_eq.2 (by omega)
        clear hki
        go_wp2
        go_ret
        exact ⟨ret_int (by rw [HN.out, if_pos HKI.out]; rfl), rfl⟩
      · have hb0 : ((k : Int) == (i : Int)) = false := beq_eq_false_iff_ne.2 (by omega)
        go_wp2
        go_ret
        exact ⟨ret_int (by rw [HN.out, if_neg hki]), rfl⟩

theorem ret_b {a b : Bool} (h : a = b) : Ending.returned (.bool a) = .returned (.bool b) := by rw [h]

set_option maxHeartbeats 400000 in
theorem accepts_any (s : Int) (w : World) :
    Calls Try.prog 14 #[.int .i64 s] w fun e w' => e = .returned (.bool (Pl.acc s)) ∧ w' = w := by
  go_enter Try.func14, Try.ntmps14
  go_wp2
  all_goals
    go_ret
    refine ⟨ret_b ?_, rfl⟩
    unfold Pl.acc
    first | (simp [*]; done) | simp [Bool.or_assoc]

theorem states {s : Int} (h0 : 0 ≤ s) (h1 : s ≤ 8) : s = 0 ∨ s = 1 ∨ s = 2 ∨ s = 3 ∨ s = 4 ∨ s = 5 ∨ s = 6 ∨ s = 7 ∨ s = 8 := by omega

set_option maxHeartbeats 2000000 in
theorem step_any (s c : Int) (w : World) (h0 : 0 ≤ s) (h1 : s ≤ 8) :
    Calls Try.prog 13 #[.int .i64 s, .int .u8 c] w fun e w' => e = .returned (.int .i64 (Pl.step s c)) ∧ w' = w := by
  rcases states h0 h1 with rfl | rfl | rfl | rfl | rfl | rfl | rfl | rfl | rfl
  all_goals
    clear h0 h1
    go_enter Try.func13, Try.ntmps13
    go_wp2
    all_goals
      go_ret
      refine ⟨ret_int ?_, rfl⟩
      first | rw [Pl.step0] | rw [Pl.step1] | rw [Pl.step2] | rw [Pl.step3] | rw [Pl.step4] | rw [Pl.step5] | rw [Pl.step6] | rw [Pl.step7] | rw [Pl.step8]
      simp only [Pl.dig_true, Pl.exq_true]
      try simp only [beq_iff_eq, beq_eq_false_iff_ne, ne_eq] at *
      repeat' split
      all_goals first | omega | exact absurd (Or.inl trivial) ‹_›
end Go.Proofs.Qxb6621665a
