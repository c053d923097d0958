/-
  FnFormatListSplitsAtAnyBreak: the walk at no element; the walk whole.
-/
import Derived.Test.Qxb6620856aDoorLaw6
namespace Go.Proofs.Qxb6620856aDoor
open Go.ChangeShapes Go.WideShapes Go.ChangeAt Go.RowKit

set_option maxHeartbeats 1000000 in
set_option maxRecDepth 10000 in
/-- No element, the cut at 0. -/
theorem walk6_zero (a : Option Addr) (cap : Nat) (w : World) (h : a = none ∨ ∃ x, a = some x) :
    Calls Tryd.prog 6 #[.slice a 0 cap, .int .i64 0] w fun e w' => e = .returned (.bool true) ∧ Below w.heap.size w w' := by
  obtain ⟨i0, hi, hz0, hz1, hz2⟩ := info_parts Tryd.info3
  have hnil := fun w => run_neq_slice_nil_any (P := Tryd.prog) w 22 3 a 0 cap 0 0 Tryd.underlying22
  have HA := (show Hid _ from h)
  clear h
  go_enter Tryd.func6, Tryd.ntmps6
  go_upto_if 23 with go_in
  go_cut [0] (fun v wx => ∃ ao c, v = .slice ao 0 c ∧ Below w.heap.size w wx)
  case first =>
    rcases HA.out with rfl | ⟨x, rfl⟩
    · go_wp2
      go_meet
      exact ⟨none, cap, rfl, Below.refl _ _⟩
    · go_wp2_with (first | (at_make; refine wpList_make_full _ rfl _ _ 22 rfl w.heap.size 3 i0 (.int .i64 0) 1 Tryd.underlying22 hi hz0 hz1 .i64 .i64 _ _ 0 rfl rfl rfl rfl ?b2 ?b3 (Nat.le_refl _) ?_))
      case b2 => rw [hz2]; omega
      case b3 => unfold maxLen; omega
      intro w1 hown1 hgrow1
      have hb1 : Below w.heap.size w w1 := (Below.refl _ _).grown hgrow1 (Nat.le_refl _) (fun k h => by cases h)
      clear hown1 hgrow1
      go_wp2_with (refine wpList_copy_nothing rfl (.tmp 27) (.tmp 28) 22 22 rfl 3 Tryd.underlying22 Tryd.size3 _ _ _ _ _ _ rfl rfl rfl ?_)
      go_meet
      exact ⟨_, _, rfl, hb1⟩
  case rest =>
    obtain ⟨ao, c, rfl, hb⟩ := hcut
    have hsz := hb.size
    clear HA
    have hd0 : decide ((0 : Int) < (0 : Int)) = false := rfl
    go_wp2
    go_quiet (fail)
    go_wp2_with fail
    refine (formatList_none _ _ _).mono ?_
    rintro e w3 ⟨rfl, hb3⟩
    have hb3' : Below w.heap.size w w3 := (below_quiet hb _).trans (hb3.mono hsz)
    have hsz3 := hb3'.size
    clear hb3 hb hsz
    go_wp2_with fail
    refine (formatList_none _ _ _).mono ?_
    rintro e w4 ⟨rfl, hb4⟩
    have hb4' := hb3'.trans (hb4.mono hsz3)
    have hsz4 := hb4'.size
    clear hb4 hb3' hsz3
    go_wp2_with fail
    refine (formatList_none _ _ _).mono ?_
    rintro e w5 ⟨rfl, hb5⟩
    have hb5' := hb4'.trans (hb5.mono hsz4)
    clear hb5 hb4' hsz4
    go_wp2
    refine wp_loop_rounds 1 ?_
    rw [rounds_succ]
    go_wp2
    refine wp_loop_rounds 1 ?_
    rw [rounds_succ]
    go_wp2
    go_ret
    exact ⟨rfl, hb5'⟩

theorem walk6 (a : Option Addr) (len cap : Nat) (zs : List Int) (k : Int) (w : World) (h : IsRow .i64 w a len cap zs) (htab : Tab w) :
    Calls Tryd.prog 6 #[.slice a len cap, .int .i64 k] w fun e w' => e = .returned (.bool true) ∧ Below w.heap.size w w' := by
  by_cases hn : len ≤ 131072
  · rcases h with ⟨rfl, rfl, rfl, rfl⟩ | ⟨x, rfl, hl, _, hz, hc, hwf⟩
    · by_cases hk : k = 0
      · subst hk; exact walk6_zero none 0 w (.inl rfl)
      · exact walk6_nil_out k w hk
    · by_cases hk : 0 ≤ k ∧ k ≤ (len : Int)
      · obtain ⟨hk0, hk1⟩ := hk
        obtain ⟨K, rfl⟩ := Int.eq_ofNat_of_zero_le hk0
        by_cases h0 : len = 0
        · subst h0
          obtain rfl : K = 0 := by omega
          exact walk6_zero (some x) cap w (.inr ⟨x, rfl⟩)
        · exact walk6_some x len cap zs K w (by omega) hn (by omega) hl hz hc hwf htab
      · exact walk6_out x len cap zs k w hn (by omega) hl hz hc
  · exact walk6_big a len cap k w (by omega)
end Go.Proofs.Qxb6620856aDoor
