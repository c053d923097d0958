/-
  FnNumberEndsWhereTheTextStopsReadingAsANumber: the walk, the row.
-/
import Derived.Test.Qxb6621665aCopy
namespace Go.Proofs.Qxb6621665a
open Go.ChangeShapes Go.WideShapes Go.ChangeAt Go.RowKit
open Go.ChangeMaps (open_string shut_string)

set_option maxHeartbeats 1000000 in
set_option maxRecDepth 10000 in
theorem ends_main (x : Addr) (len cap : Nat) (zs : List Int) (i k : Nat) (w : World) (hn : len ≤ 1048576) (hl : len ≤ cap) (hz : zs.length = cap) (hc : ∀ i, i < zs.length → w.cell? (x.add i) = some (.int .u8 (zs.getD i 0))) (hi : i < len) (hik : i < k) (hkl : k ≤ len) :
    Calls Try.prog 3 #[.slice (some x) len cap, .int .i64 i, .int .i64 k] w fun e w' => e = .returned (.bool true) ∧ Below w.heap.size w w' := by
  obtain ⟨i0, hi0, hz0, hz1, hz2⟩ := info_parts Try.info5
  have hnil := fun w => run_neq_slice_nil_any (P := Try.prog) w 22 5 (some x) len cap 0 0 Try.underlying22
  have HZ : Hid (zs.length = cap) := hz
  have HC := (show Hid _ from hc)
  obtain ⟨cs, hcs⟩ : ∃ cs, cs = (zs.take len).map (Value.int .u8) := ⟨_, rfl⟩
  have HCS := (show Hid _ from hcs)
  have HCL := (show Hid _ from cs_length hz hl hcs)
  clear hz hc hcs
  go_enter Try.func3, Try.ntmps3
  go_wp2_with (first | (at_make; refine wpList_make_full _ rfl _ _ 22 rfl w.heap.size 5 i0 (.int .u8 0) 1 Try.underlying22 hi0 hz0 hz1 .i64 .i64 _ _ len rfl rfl rfl rfl ?b2 ?b3 (Nat.le_refl _) ?_) | go_in)
  case b2 => rw [hz2]; omega
  case b3 => unfold maxLen; omega
  intro w1 hown1 hgrow1
  have HB1 := (show Hid _ from made_block hown1)
  have hb1 : Below w.heap.size w w1 := (Below.refl _ _).grown hgrow1 (Nat.le_refl _) (fun k h => by cases h)
  have HSRC := (show Hid _ from src_cells HC.out hb1 HCS.out)
  clear hown1 hgrow1
  go_wp2_with (refine wpList_copy_splice rfl (.tmp 41) (.tmp 42) 22 22 rfl 5 Try.underlying22 Try.size5 _ _ _ _ _ _ rfl rfl w.heap.size 0 _ 5 HB1.out.1 cs ?k1 (fun _ => ⟨rfl, x, rfl, HSRC.out⟩) ?k3 (one_ints HCS.out) w.heap.size w hb1 (Nat.le_refl _) ?_)
  case k1 => rw [HCL.out]; simp
  case k3 => rw [HB1.out.2, HCL.out]; omega
  intro w2 HH hb2
  obtain ⟨ys, hys⟩ : ∃ ys, ys = zs.take len := ⟨_, rfl⟩
  have HX : Hid (Text w.heap.size 0 len ys w2) := by
    show Text _ _ _ _ _
    have hh := HH.out
    rw [splice_all HB1.out.2 HCL.out, HCS.out] at hh
    rw [hys]
    exact text_copied HZ.out hl hn hh
  clear hys HH HB1 hb1 HSRC HC HZ HCS HCL
  obtain ⟨W, hW⟩ : ∃ W, W = wantOf i (Pl.run 0 (ys.drop i)) := ⟨_, rfl⟩
  obtain ⟨C, hC⟩ : ∃ C, C = secOf i k (ys.drop i) := ⟨_, rfl⟩
  have HW := (show Hid _ from hW)
  have HC := (show Hid _ from hC)
  have HN1 : Hid (Pl.endAt i (Pl.aut 0 (ys.drop i)) = W) := by show _ = _; rw [Pl.endAt_aut, hW]; rfl
  have HN2 : Hid (Pl.endAt i (Pl.aut 0 ((ys.take k).drop i)) = C) := by
    show _ = _
    rw [List.drop_take, Pl.cutEnd_eq i k _ (by omega), hC]
    unfold secOf
    rw [if_pos hik]
  obtain ⟨S, hS⟩ : ∃ S, S = W - i := ⟨_, rfl⟩
  have HN3 : Hid (Pl.endAt 0 (Pl.aut 0 ((ys.drop i).drop 0)) = if 0 < W then W - i else 0) := by
    show _ = _
    rw [List.drop_zero, Pl.endAt_aut, hW]
    unfold wantOf
    split
    · split <;> omega
    · rfl
  have hWb : 0 < W → i ≤ W := by
    intro h
    rw [hW] at h ⊢
    unfold wantOf at h ⊢
    split <;> simp_all
  have hWn : W ≤ len := by
    have h1 := Pl.run_le (ys.drop i) 0
    rw [List.length_drop, HX.out.len] at h1
    rw [hW]
    unfold wantOf
    split <;> omega
  clear hW hC hS
  go_wp2_with fail
  refine (walkN_any _ _ _ _ ys i k _ HX.out (by omega)).mono ?_
  rintro e w3 ⟨rfl, hw3⟩
  rw [hw3, ← HW.out, ← HC.out]
  clear hw3 w3
  go_wp2_with fail
  refine (zzNumber_any _ _ _ _ ys _ i W _ HX.out rfl hi HN1.out).mono ?_
  rintro e w3 ⟨rfl, hw3⟩
  rw [hw3]
  clear hw3 w3
  go_wp2_with fail
  refine (zzNumber_any _ _ _ _ (ys.take k) _ i C _ (HX.out.take hkl) rfl hik HN2.out).mono ?_
  rintro e w3 ⟨rfl, hw3⟩
  rw [hw3]
  clear hw3 w3
  have hne : ¬ len = i := by omega
  by_cases hW0 : 0 < W
  · have hWi := hWb hW0
    have HN4 : Hid (Pl.endAt 0 (Pl.aut 0 ((ys.drop i).drop 0)) = W - i) := by show _ = _; rw [HN3.out, if_pos hW0]
    have hb0 : (((W - i : Nat) : Int) == (W : Int) - (i : Int)) = true := beq_iff_eq.2 (by omega)
    clear hWb
    go_wp2_with fail
    refine (zzNumber_any _ _ _ _ (ys.drop i) _ 0 (W - i) _ (HX.out.drop i) rfl (by omega) HN4.out).mono ?_
    rintro e w3 ⟨rfl, hw3⟩
    rw [hw3]
    clear hw3 w3
    go_wp2
    go_ret
    exact ⟨rfl, hb2⟩
  · have HN4 : Hid (Pl.endAt 0 (Pl.aut 0 ((ys.drop i).drop 0)) = 0) := by show _ = _; rw [HN3.out, if_neg hW0]
    clear hWb
    go_wp2_with fail
    refine (zzNumber_any _ _ _ _ (ys.drop i) _ 0 0 _ (HX.out.drop i) rfl (by omega) HN4.out).mono ?_
    rintro e w3 ⟨rfl, hw3⟩
    rw [hw3]
    clear hw3 w3
    go_wp2
    go_ret
    exact ⟨rfl, hb2⟩

set_option maxHeartbeats 400000 in
theorem ends_out (a : Option Addr) (len cap : Nat) (i k : Int) (w : World) (h : len ≤ 1048576) (ho : ¬ (0 ≤ i ∧ i < (len : Int) ∧ i < k ∧ k ≤ (len : Int))) :
    Calls Try.prog 3 #[.slice a len cap, .int .i64 i, .int .i64 k] w fun e w' => e = .returned (.bool true) ∧ Below w.heap.size w w' := by
  by_cases h1 : i < 0
  · clear ho
    go_enter Try.func3, Try.ntmps3
    go_wp2
    go_ret
    exact ⟨rfl, Below.refl _ _⟩
  · by_cases h2 : (len : Int) ≤ i
    · clear ho
      go_enter Try.func3, Try.ntmps3
      go_wp2
      go_ret
      exact ⟨rfl, Below.refl _ _⟩
    · by_cases h3 : k ≤ i
      · clear ho
        go_enter Try.func3, Try.ntmps3
        go_wp2
        go_ret
        exact ⟨rfl, Below.refl _ _⟩
      · have h4 : (len : Int) < k := by omega
        clear ho
        go_enter Try.func3, Try.ntmps3
        go_wp2
        go_ret
        exact ⟨rfl, Below.refl _ _⟩

set_option maxHeartbeats 400000 in
theorem ends_big (a : Option Addr) (len cap : Nat) (i k : Int) (w : World) (h : 1048576 < len) :
    Calls Try.prog 3 #[.slice a len cap, .int .i64 i, .int .i64 k] w fun e w' => e = .returned (.bool true) ∧ Below w.heap.size w w' := by
  go_enter Try.func3, Try.ntmps3
  go_wp2
  go_ret
  exact ⟨rfl, Below.refl _ _⟩

theorem ends_walk (a0 : Option Addr) (len0 cap0 : Nat) (z0 : List Int) (a1 : Int) (a2 : Int) (w : World) (w0 : IsRow .u8 w a0 len0 cap0 z0) (_w1 : (Lit.int .i64 a1).wf = true) (_w2 : (Lit.int .i64 a2).wf = true) :
    Calls Try.prog 3 #[.slice a0 len0 cap0, .int .i64 a1, .int .i64 a2] w fun e w' => e = .returned (.bool true) ∧ Below w.heap.size w w' := by
  by_cases hn : len0 ≤ 1048576
  · by_cases ho : 0 ≤ a1 ∧ a1 < (len0 : Int) ∧ a1 < a2 ∧ a2 ≤ (len0 : Int)
    · obtain ⟨h1, h2, h3, h4⟩ := ho
      obtain ⟨i, rfl⟩ := Int.eq_ofNat_of_zero_le h1
      obtain ⟨k, rfl⟩ := Int.eq_ofNat_of_zero_le (show 0 ≤ a2 by omega)
      rcases w0 with ⟨rfl, rfl, rfl, rfl⟩ | ⟨x, rfl, hl, _, hz, hc, _⟩
      · omega
      · exact ends_main x len0 cap0 z0 i k w hn hl hz hc (by omega) (by omega) (by omega)
    · exact ends_out a0 len0 cap0 a1 a2 w hn ho
  · exact ends_big a0 len0 cap0 a1 a2 w (by omega)

set_option maxRecDepth 100000 in
theorem ends_lifted (os : Os) (started : os.Started) (H : Type) (enc : TypeId × Value → H) :
    ReturnsInHanded {} Try.checked os 3 .any (Rows.fnNumberEndsWhereTheTextStopsReadingAsANumberSpec.pre6 enc Try.prog Try.f3 Rows.fnNumberEndsWhereTheTextStopsReadingAsANumberRow.domain false) (Rows.fnNumberEndsWhereTheTextStopsReadingAsANumberSpec.post enc Try.prog Try.f3 false true false false) := by
  refine returnsInHanded_of_change (C := Try.checked) own started (by kernel_rfl) Try.func3
    (ChangeSpec.witness6 (enc := enc) (C := Try.checked) false ⟨#[], #[.slice none 0 0, .int .i64 0, .int .i64 0], []⟩ 8 (by kernel_rfl) (by kernel_rfl) (by kernel_rfl) (by kernel_rfl)) ?_
  intro W base args ds gs before hval0 hW hcnd _
  have hval : ∀ (j : Nat) t v, Try.f3.params[j]? = some t → args[j]? = some v → Value.okWide Try.prog W .any base t v := hval0
  have hW' := hW
  obtain ⟨p, q, hA0, hV, rfl, hfz, hnd⟩ := hW
  have hA : DataW.TrodAll enc Try.prog W 0 (fun _ => true) true Try.f3.params.toList args.toList ds p := hA0
  rw [Try.params3] at hA hval
  obtain ⟨v0, vs0, d0, ds0, p0, q0, hargs, rfl, rfl, h0, r0⟩ := trodAll_cons hA
  obtain ⟨v1, vs1, d1, ds1, p1, q1, rfl, rfl, rfl, h1, r1⟩ := trodAll_cons r0
  obtain ⟨v2, vs2, d2, ds2, p2, q2, rfl, rfl, rfl, h2, r2⟩ := trodAll_cons r1
  obtain ⟨rfl, rfl, rfl⟩ := trodAll_nil r2
  obtain rfl : args = #[v0, v1, v2] := by cases args; simp_all
  obtain ⟨rfl, rfl⟩ := trodVars_none hV
  obtain ⟨a0, len0, cap0, rfl⟩ := okWide_slice Try.underlying22 (hval 0 22 v0 rfl rfl)
  have k0 := h0
  have lt0 : ∀ x ∈ p0, x.block < W.heap.size := by obtain ⟨m, hm⟩ := k0; exact DataW.trod_lt m _ _ _ hm
  obtain ⟨z0, w0⟩ : ∃ zs, IsRow .u8 W a0 len0 cap0 zs := by
    obtain ⟨fuel, hf⟩ := h0
    rcases open_ints Try.underlying22 Try.underlying5 (by kernel_rfl) hf with ⟨hcs, _⟩ | ⟨x, l, c, zs, hcs, _, hl, hm, hz, _, hcell, hwz⟩
    · simp [Value.cells] at hcs
      obtain ⟨rfl, rfl, rfl⟩ := hcs
      exact ⟨[], .inl ⟨rfl, rfl, rfl, rfl⟩⟩
    · simp [Value.cells] at hcs
      obtain ⟨rfl, rfl, rfl⟩ := hcs
      exact ⟨zs, .inr ⟨_, rfl, hl, hm, by simpa using hz, hcell, hwz⟩⟩
  obtain ⟨a1, rfl, rfl, rfl, w1⟩ := open_int Try.underlying3 (hval 1 3 v1 rfl rfl) h1
  obtain ⟨a2, rfl, rfl, rfl, w2⟩ := open_int Try.underlying3 (hval 2 3 v2 rfl rfl) h2
  clear hA0 hval0
  refine (ends_walk a0 len0 cap0 z0 a1 a2 W w0 w1 w2).mono fun e W' ⟨he, bel⟩ => ?_
  subst he
  exact ⟨_, rfl, _, _, _, [], _, [], hW', trodAll_mk1 (shut_bool Try.underlying4 _), (trodAll_cons_mk (Below.trod laidOut (by kernel_rfl) (of_decide_eq_true (by kernel_rfl)) k0 bel lt0) (trodAll_cons_mk (shut_int Try.underlying3 w1) (trodAll_cons_mk (shut_int Try.underlying3 w2) trodAll_mk0))), rfl, bel.frame _, fun h => by cases h⟩

theorem ends_over : Rows.fnNumberEndsWhereTheTextStopsReadingAsANumberRow.holds Try.pinned (OpenSpec.ofChange Rows.fnNumberEndsWhereTheTextStopsReadingAsANumberSpec) :=
  OpenClaim.holds_of_wide 3 Try.f3 rfl rfl rfl rfl rfl rfl rfl ⟨rfl, rfl, rfl, rfl, rfl⟩ rfl rfl rfl rfl rfl (by kernel_rfl) Try.func3 (by kernel_rfl)
    (of_decide_eq_true (by kernel_rfl)) (by unfold Func.isWrapper; first | (rw [if_pos (by decide +kernel)]; kernel_rfl) | (rw [if_neg (by decide +kernel)]; exact ⟨rfl, rfl⟩))
    (fun os started H enc _ => ends_lifted os started H enc)


/-- The statement. -/
theorem number_ends : Rows.FnNumberEndsWhereTheTextStopsReadingAsANumberSaid := ends_over
end Go.Proofs.Qxb6621665a
