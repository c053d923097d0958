/-
  FnScalarReadsTheScalarOfItsKindAlone: the walk, the row.
-/
import Derived.Test.Qxb6621665aScalarPlain
namespace Go.Proofs.Qxb6621665a
open Go.ChangeShapes Go.WideShapes Go.ChangeAt Go.RowKit
open Go.ChangeMaps (open_string shut_string)

theorem byt_wf {zs : List Int} (h : ∀ n ∈ zs, (Lit.int .u8 n).wf = true) : Byt zs := by
  intro j
  by_cases hj : j < zs.length
  · have e : zs.getD j 0 = zs[j] := by simp [List.getD, List.getElem?_eq_getElem hj]
    rw [e]; exact bounds_u8 (h _ (List.getElem_mem hj))
  · have e : zs.getD j 0 = 0 := by simp [List.getD, List.getElem?_eq_none (show zs.length ≤ j by omega)]
    rw [e]; omega
theorem byt_take {zs : List Int} (h : ∀ n ∈ zs, (Lit.int .u8 n).wf = true) (k : Nat) : Byt (zs.take k) := byt_wf fun n hn => h n (List.mem_of_mem_take hn)

set_option maxHeartbeats 400000 in
theorem zzKind_any (c R : Int) (w : World) (h0 : 0 ≤ c) (h1 : c ≤ 255) (hR : kindF c = R) :
    Calls Try.prog 9 #[.int .u8 c] w fun e w' => e = .returned (.int .u8 R) ∧ w' = w := by
  have HR := (show Hid _ from hR)
  clear hR
  go_enter Try.func9, Try.ntmps9
  go_wp2_with fail
  refine (kindOf_any c _ h0 h1).mono ?_
  rintro e w2 ⟨rfl, hw2⟩
  rw [hw2, HR.out]
  clear hw2 w2
  go_wp2
  go_ret
  exact ⟨rfl, rfl⟩

set_option maxHeartbeats 2000000 in
set_option maxRecDepth 10000 in
theorem scalar_main (x : Addr) (len cap : Nat) (zs : List Int) (i : Nat) (kd : Int) (w : World) (hn : len ≤ 1048576) (hl : len ≤ cap) (hz : zs.length = cap) (hc : ∀ i, i < zs.length → w.cell? (x.add i) = some (.int .u8 (zs.getD i 0))) (hwf : ∀ n ∈ zs, (Lit.int .u8 n).wf = true) (hi : i < len) :
    Calls Try.prog 5 #[.slice (some x) len cap, .int .i64 i, .int .u8 kd] w fun e w' => e = .returned (.bool true) ∧ Below w.heap.size w w' := by
  obtain ⟨i0, hi0, hz0, hz1, hz2⟩ := info_parts Try.info5
  have hnil := fun w => run_neq_slice_nil_any (P := Try.prog) w 22 5 (some x) len cap 0 0 Try.underlying22
  have HZ : Hid (zs.length = cap) := hz
  have HC := (show Hid _ from hc)
  obtain ⟨cs, hcs⟩ : ∃ cs, cs = (zs.take len).map (Value.int .u8) := ⟨_, rfl⟩
  have HCS := (show Hid _ from hcs)
  have HCL := (show Hid _ from cs_length hz hl hcs)
  obtain ⟨ys, hys⟩ : ∃ ys, ys = zs.take len := ⟨_, rfl⟩
  have HBY : Hid (Byt ys) := by show Byt ys; rw [hys]; exact byt_take hwf len
  have HYS := (show Hid _ from hys)
  clear hz hc hcs hwf hys
  go_enter Try.func5, Try.ntmps5
  go_wp2_with (first | (at_make; refine wpList_make_full _ rfl _ _ 22 rfl w.heap.size 5 i0 (.int .u8 0) 1 Try.underlying22 hi0 hz0 hz1 .i64 .i64 _ _ len rfl rfl rfl rfl ?b2 ?b3 (Nat.le_refl _) ?_) | go_in)
  case b2 => rw [hz2]; omega
  case b3 => unfold maxLen; omega
  intro w1 hown1 hgrow1
  have HB1 := (show Hid _ from made_block hown1)
  have hb1 : Below w.heap.size w w1 := (Below.refl _ _).grown hgrow1 (Nat.le_refl _) (fun k h => by cases h)
  have HSRC := (show Hid _ from src_cells HC.out hb1 HCS.out)
  clear hown1 hgrow1
  go_wp2_with (refine wpList_copy_splice rfl (.tmp 33) (.tmp 34) 22 22 rfl 5 Try.underlying22 Try.size5 _ _ _ _ _ _ rfl rfl w.heap.size 0 _ 5 HB1.out.1 cs ?k1 (fun _ => ⟨rfl, x, rfl, HSRC.out⟩) ?k3 (one_ints HCS.out) w.heap.size w hb1 (Nat.le_refl _) ?_)
  case k1 => rw [HCL.out]; simp
  case k3 => rw [HB1.out.2, HCL.out]; omega
  intro w2 HH hb2
  have HBB : Hid (w.heap.size < w2.heap.size) := lt_of_block HH.out
  have HX : Hid (Text w.heap.size 0 len ys w2) := by
    show Text _ _ _ _ _
    have hh := HH.out
    rw [splice_all HB1.out.2 HCL.out, HCS.out] at hh
    rw [HYS.out]
    exact text_copied HZ.out hl hn hh
  clear HH HB1 hb1 HSRC HC HZ HCS HCL HYS
  have hiy : i < ys.length := by rw [HX.out.len]; exact hi
  obtain ⟨E, hE⟩ : ∃ E, E = (scalAt ys i).1 := ⟨_, rfl⟩
  obtain ⟨EK, hEK⟩ : ∃ EK, EK = (scalAt ys i).2 := ⟨_, rfl⟩
  obtain ⟨R, hR⟩ : ∃ R, scalF ys i kd = R := ⟨_, rfl⟩
  obtain ⟨c, hcz⟩ : ∃ c, c = ys.getD i 0 := ⟨_, rfl⟩
  have HE := (show Hid _ from hE)
  have HEK := (show Hid _ from hEK)
  have HR := (show Hid _ from hR)
  have HCZ := (show Hid _ from hcz)
  have HLAW : Hid (R = if 0 < E ∧ kd = EK then E else 0) := by show _ = _; rw [← hR, hE, hEK]; exact scal_law hiy kd
  have HKIND : Hid (0 < E → kindF c = EK) := by intro h; rw [hcz, hEK]; rw [hE] at h; exact scal_kind hiy h
  have HNUM : Hid (kd = 3 → Pl.endAt i (Pl.aut 0 (ys.drop i)) = R) := by intro h; rw [← hR, h, scal3, want_end]
  have hEb : E ≤ 1048581 := by have := scal_bound HX.out.len hi; rw [hE]; omega
  have hc0 : 0 ≤ c := by rw [hcz]; exact (HBY.out i).1
  have hc1 : c ≤ 255 := by rw [hcz]; exact (HBY.out i).2
  clear hE hEK hR hcz hiy
  go_wp2_with fail
  refine (scalarAt_any _ _ _ _ ys i _ HX.out hi).mono ?_
  rintro e w3 ⟨rfl, hh3, hb3⟩
  rw [← HE.out, ← HEK.out]
  have HX3 : Hid (Text w.heap.size 0 len ys w3) := HX.out.heap hh3
  have HBB3 : Hid (w.heap.size < w3.heap.size) := by show _ < _; rw [hh3]; exact HBB.out
  have hb3' : Below w.heap.size w w3 := hb2.trans (hb3.mono (Nat.le_of_lt HBB.out))
  clear hh3 hb3 hb2 HX HBB
  by_cases hpos : 0 < E
  · by_cases hkd : kd = EK
    · have hbk : (kd == EK) = true := beq_iff_eq.2 hkd
      have HRV : Hid (R = E) := by show _ = _; rw [HLAW.out, if_pos ⟨hpos, hkd⟩]
      clear hkd
      by_cases h3 : kd = 3
      · have hb3 : (kd == 3) = true := beq_iff_eq.2 h3
        have H3 := (show Hid _ from h3)
        clear h3
        go_wp2_with fail
        refine (zzScalar_any _ _ _ _ ys i kd _ HX3.out HBB3.out (Nat.le_refl _) HBY.out hi).mono ?_
        rintro e w4 ⟨rfl, hb4⟩
        rw [HR.out, HRV.out]
        have HX4 : Hid (Text w.heap.size 0 len ys w4) := HX3.out.below HBB3.out hb4
        have hb4' : Below w.heap.size w w4 := hb3'.trans (hb4.mono (Nat.le_of_lt HBB3.out))
        have hck : w4.cell? ⟨w.heap.size, i, none⟩ = some (.int .u8 c) := by rw [HCZ.out]; have := HX4.out.cell i hi; rw [Nat.zero_add] at this; exact this
        clear hb4 hb3' HX3 HBB3
        go_wp2_with fail
        refine (zzKind_any c EK _ hc0 hc1 (HKIND.out hpos)).mono ?_
        rintro e w5 ⟨rfl, hw5⟩
        rw [hw5]
        clear hw5 w5
        go_wp2_with fail
        refine (zzNumber_any _ _ _ _ ys _ i E _ HX4.out rfl hi ((HNUM.out H3.out).trans HRV.out)).mono ?_
        rintro e w5 ⟨rfl, hw5⟩
        rw [hw5]
        clear hw5 w5
        go_wp2
        go_ret
        exact ⟨rfl, hb4'⟩
      · have hb3 : (kd == 3) = false := beq_eq_false_iff_ne.2 h3
        clear h3
        go_wp2_with fail
        refine (zzScalar_any _ _ _ _ ys i kd _ HX3.out HBB3.out (Nat.le_refl _) HBY.out hi).mono ?_
        rintro e w4 ⟨rfl, hb4⟩
        rw [HR.out, HRV.out]
        have HX4 : Hid (Text w.heap.size 0 len ys w4) := HX3.out.below HBB3.out hb4
        have hb4' : Below w.heap.size w w4 := hb3'.trans (hb4.mono (Nat.le_of_lt HBB3.out))
        have hck : w4.cell? ⟨w.heap.size, i, none⟩ = some (.int .u8 c) := by rw [HCZ.out]; have := HX4.out.cell i hi; rw [Nat.zero_add] at this; exact this
        clear hb4 hb3' HX3 HBB3
        go_wp2_with fail
        refine (zzKind_any c EK _ hc0 hc1 (HKIND.out hpos)).mono ?_
        rintro e w5 ⟨rfl, hw5⟩
        rw [hw5]
        clear hw5 w5
        go_wp2
        go_ret
        exact ⟨rfl, hb4'⟩
    · have hbk : (kd == EK) = false := beq_eq_false_iff_ne.2 hkd
      have HRV : Hid (R = 0) := by show _ = _; rw [HLAW.out, if_neg (fun h => hkd h.2)]
      clear hkd
      by_cases h3 : kd = 3
      · have hb3 : (kd == 3) = true := beq_iff_eq.2 h3
        have H3 := (show Hid _ from h3)
        clear h3
        go_wp2_with fail
        refine (zzScalar_any _ _ _ _ ys i kd _ HX3.out HBB3.out (Nat.le_refl _) HBY.out hi).mono ?_
        rintro e w4 ⟨rfl, hb4⟩
        rw [HR.out, HRV.out]
        have HX4 : Hid (Text w.heap.size 0 len ys w4) := HX3.out.below HBB3.out hb4
        have hb4' : Below w.heap.size w w4 := hb3'.trans (hb4.mono (Nat.le_of_lt HBB3.out))
        have hck : w4.cell? ⟨w.heap.size, i, none⟩ = some (.int .u8 c) := by rw [HCZ.out]; have := HX4.out.cell i hi; rw [Nat.zero_add] at this; exact this
        clear hb4 hb3' HX3 HBB3
        go_wp2_with fail
        refine (zzKind_any c EK _ hc0 hc1 (HKIND.out hpos)).mono ?_
        rintro e w5 ⟨rfl, hw5⟩
        rw [hw5]
        clear hw5 w5
        go_wp2_with fail
        refine (zzNumber_any _ _ _ _ ys _ i 0 _ HX4.out rfl hi ((HNUM.out H3.out).trans HRV.out)).mono ?_
        rintro e w5 ⟨rfl, hw5⟩
        rw [hw5]
        clear hw5 w5
        go_wp2
        go_ret
        exact ⟨rfl, hb4'⟩
      · have hb3 : (kd == 3) = false := beq_eq_false_iff_ne.2 h3
        clear h3
        go_wp2_with fail
        refine (zzScalar_any _ _ _ _ ys i kd _ HX3.out HBB3.out (Nat.le_refl _) HBY.out hi).mono ?_
        rintro e w4 ⟨rfl, hb4⟩
        rw [HR.out, HRV.out]
        have HX4 : Hid (Text w.heap.size 0 len ys w4) := HX3.out.below HBB3.out hb4
        have hb4' : Below w.heap.size w w4 := hb3'.trans (hb4.mono (Nat.le_of_lt HBB3.out))
        have hck : w4.cell? ⟨w.heap.size, i, none⟩ = some (.int .u8 c) := by rw [HCZ.out]; have := HX4.out.cell i hi; rw [Nat.zero_add] at this; exact this
        clear hb4 hb3' HX3 HBB3
        go_wp2_with fail
        refine (zzKind_any c EK _ hc0 hc1 (HKIND.out hpos)).mono ?_
        rintro e w5 ⟨rfl, hw5⟩
        rw [hw5]
        clear hw5 w5
        go_wp2
        go_ret
        exact ⟨rfl, hb4'⟩
  · have HRV : Hid (R = 0) := by show _ = _; rw [HLAW.out, if_neg (fun h => hpos h.1)]
    by_cases h3 : kd = 3
    · have hb3 : (kd == 3) = true := beq_iff_eq.2 h3
      have H3 := (show Hid _ from h3)
      clear h3
      go_wp2_with fail
      refine (zzScalar_any _ _ _ _ ys i kd _ HX3.out HBB3.out (Nat.le_refl _) HBY.out hi).mono ?_
      rintro e w4 ⟨rfl, hb4⟩
      rw [HR.out, HRV.out]
      have HX4 : Hid (Text w.heap.size 0 len ys w4) := HX3.out.below HBB3.out hb4
      have hb4' : Below w.heap.size w w4 := hb3'.trans (hb4.mono (Nat.le_of_lt HBB3.out))
      have hck : w4.cell? ⟨w.heap.size, i, none⟩ = some (.int .u8 c) := by rw [HCZ.out]; have := HX4.out.cell i hi; rw [Nat.zero_add] at this; exact this
      clear hb4 hb3' HX3 HBB3
      go_wp2_with fail
      refine (zzNumber_any _ _ _ _ ys _ i 0 _ HX4.out rfl hi ((HNUM.out H3.out).trans HRV.out)).mono ?_
      rintro e w5 ⟨rfl, hw5⟩
      rw [hw5]
      clear hw5 w5
      go_wp2
      go_ret
      exact ⟨rfl, hb4'⟩
    · have hb3 : (kd == 3) = false := beq_eq_false_iff_ne.2 h3
      clear h3
      go_wp2_with fail
      refine (zzScalar_any _ _ _ _ ys i kd _ HX3.out HBB3.out (Nat.le_refl _) HBY.out hi).mono ?_
      rintro e w4 ⟨rfl, hb4⟩
      rw [HR.out, HRV.out]
      have HX4 : Hid (Text w.heap.size 0 len ys w4) := HX3.out.below HBB3.out hb4
      have hb4' : Below w.heap.size w w4 := hb3'.trans (hb4.mono (Nat.le_of_lt HBB3.out))
      have hck : w4.cell? ⟨w.heap.size, i, none⟩ = some (.int .u8 c) := by rw [HCZ.out]; have := HX4.out.cell i hi; rw [Nat.zero_add] at this; exact this
      clear hb4 hb3' HX3 HBB3
      go_wp2
      go_ret
      exact ⟨rfl, hb4'⟩

set_option maxHeartbeats 400000 in
theorem scalar_out (a : Option Addr) (len cap : Nat) (i kd : Int) (w : World) (h : len ≤ 1048576) (ho : ¬ (0 ≤ i ∧ i < (len : Int))) :
    Calls Try.prog 5 #[.slice a len cap, .int .i64 i, .int .u8 kd] w fun e w' => e = .returned (.bool true) ∧ Below w.heap.size w w' := by
  by_cases h1 : i < 0
  · clear ho
    go_enter Try.func5, Try.ntmps5
    go_wp2
    go_ret
    exact ⟨rfl, Below.refl _ _⟩
  · have h2 : (len : Int) ≤ i := by omega
    clear ho
    go_enter Try.func5, Try.ntmps5
    go_wp2
    go_ret
    exact ⟨rfl, Below.refl _ _⟩

set_option maxHeartbeats 400000 in
theorem scalar_big (a : Option Addr) (len cap : Nat) (i kd : Int) (w : World) (h : 1048576 < len) :
    Calls Try.prog 5 #[.slice a len cap, .int .i64 i, .int .u8 kd] w fun e w' => e = .returned (.bool true) ∧ Below w.heap.size w w' := by
  go_enter Try.func5, Try.ntmps5
  go_wp2
  go_ret
  exact ⟨rfl, Below.refl _ _⟩

theorem scalar_walk (a0 : Option Addr) (len0 cap0 : Nat) (z0 : List Int) (a1 : Int) (a2 : Int) (w : World) (w0 : IsRow .u8 w a0 len0 cap0 z0) (_w1 : (Lit.int .i64 a1).wf = true) (_w2 : (Lit.int .u8 a2).wf = true) :
    Calls Try.prog 5 #[.slice a0 len0 cap0, .int .i64 a1, .int .u8 a2] w fun e w' => e = .returned (.bool true) ∧ Below w.heap.size w w' := by
  by_cases hn : len0 ≤ 1048576
  · by_cases ho : 0 ≤ a1 ∧ a1 < (len0 : Int)
    · obtain ⟨h1, h2⟩ := ho
      obtain ⟨i, rfl⟩ := Int.eq_ofNat_of_zero_le h1
      rcases w0 with ⟨rfl, rfl, rfl, rfl⟩ | ⟨x, rfl, hl, _, hz, hc, hwf⟩
      · omega
      · exact scalar_main x len0 cap0 z0 i a2 w hn hl hz hc hwf (by omega)
    · exact scalar_out a0 len0 cap0 a1 a2 w hn ho
  · exact scalar_big a0 len0 cap0 a1 a2 w (by omega)

set_option maxRecDepth 100000 in
theorem scalar_lifted (os : Os) (started : os.Started) (H : Type) (enc : TypeId × Value → H) :
    ReturnsInHanded {} Try.checked os 5 .any (Rows.fnScalarReadsTheScalarOfItsKindAloneSpec.pre6 enc Try.prog Try.f5 Rows.fnScalarReadsTheScalarOfItsKindAloneRow.domain false) (Rows.fnScalarReadsTheScalarOfItsKindAloneSpec.post enc Try.prog Try.f5 false true false false) := by
  refine returnsInHanded_of_change (C := Try.checked) own started (by kernel_rfl) Try.func5
    (ChangeSpec.witness6 (enc := enc) (C := Try.checked) false ⟨#[], #[.slice none 0 0, .int .i64 0, .int .u8 0], []⟩ 8 (by kernel_rfl) (by kernel_rfl) (by kernel_rfl) (by kernel_rfl)) ?_
  intro W base args ds gs before hval0 hW hcnd _
  have hval : ∀ (j : Nat) t v, Try.f5.params[j]? = some t → args[j]? = some v → Value.okWide Try.prog W .any base t v := hval0
  have hW' := hW
  obtain ⟨p, q, hA0, hV, rfl, hfz, hnd⟩ := hW
  have hA : DataW.TrodAll enc Try.prog W 0 (fun _ => true) true Try.f5.params.toList args.toList ds p := hA0
  rw [Try.params5] at hA hval
  obtain ⟨v0, vs0, d0, ds0, p0, q0, hargs, rfl, rfl, h0, r0⟩ := trodAll_cons hA
  obtain ⟨v1, vs1, d1, ds1, p1, q1, rfl, rfl, rfl, h1, r1⟩ := trodAll_cons r0
  obtain ⟨v2, vs2, d2, ds2, p2, q2, rfl, rfl, rfl, h2, r2⟩ := trodAll_cons r1
  obtain ⟨rfl, rfl, rfl⟩ := trodAll_nil r2
  obtain rfl : args = #[v0, v1, v2] := by cases args; simp_all
  obtain ⟨rfl, rfl⟩ := trodVars_none hV
  obtain ⟨a0, len0, cap0, rfl⟩ := okWide_slice Try.underlying22 (hval 0 22 v0 rfl rfl)
  have k0 := h0
  have lt0 : ∀ x ∈ p0, x.block < W.heap.size := by obtain ⟨m, hm⟩ := k0; exact DataW.trod_lt m _ _ _ hm
  obtain ⟨z0, w0⟩ : ∃ zs, IsRow .u8 W a0 len0 cap0 zs := by
    obtain ⟨fuel, hf⟩ := h0
    rcases open_ints Try.underlying22 Try.underlying5 (by kernel_rfl) hf with ⟨hcs, _⟩ | ⟨x, l, c, zs, hcs, _, hl, hm, hz, _, hcell, hwz⟩
    · simp [Value.cells] at hcs
      obtain ⟨rfl, rfl, rfl⟩ := hcs
      exact ⟨[], .inl ⟨rfl, rfl, rfl, rfl⟩⟩
    · simp [Value.cells] at hcs
      obtain ⟨rfl, rfl, rfl⟩ := hcs
      exact ⟨zs, .inr ⟨_, rfl, hl, hm, by simpa using hz, hcell, hwz⟩⟩
  obtain ⟨a1, rfl, rfl, rfl, w1⟩ := open_int Try.underlying3 (hval 1 3 v1 rfl rfl) h1
  obtain ⟨a2, rfl, rfl, rfl, w2⟩ := open_int Try.underlying5 (hval 2 5 v2 rfl rfl) h2
  clear hA0 hval0
  refine (scalar_walk a0 len0 cap0 z0 a1 a2 W w0 w1 w2).mono fun e W' ⟨he, bel⟩ => ?_
  subst he
  exact ⟨_, rfl, _, _, _, [], _, [], hW', trodAll_mk1 (shut_bool Try.underlying4 _), (trodAll_cons_mk (Below.trod laidOut (by kernel_rfl) (of_decide_eq_true (by kernel_rfl)) k0 bel lt0) (trodAll_cons_mk (shut_int Try.underlying3 w1) (trodAll_cons_mk (shut_int Try.underlying5 w2) trodAll_mk0))), rfl, bel.frame _, fun h => by cases h⟩

theorem scalar_over : Rows.fnScalarReadsTheScalarOfItsKindAloneRow.holds Try.pinned (OpenSpec.ofChange Rows.fnScalarReadsTheScalarOfItsKindAloneSpec) :=
  OpenClaim.holds_of_wide 5 Try.f5 rfl rfl rfl rfl rfl rfl rfl ⟨rfl, rfl, rfl, rfl, rfl⟩ rfl rfl rfl rfl rfl (by kernel_rfl) Try.func5 (by kernel_rfl)
    (of_decide_eq_true (by kernel_rfl)) (by unfold Func.isWrapper; first | (rw [if_pos (by decide +kernel)]; kernel_rfl) | (rw [if_neg (by decide +kernel)]; exact ⟨rfl, rfl⟩))
    (fun os started H enc _ => scalar_lifted os started H enc)


/-- The statement. -/
theorem scalar_reads : Rows.FnScalarReadsTheScalarOfItsKindAloneSaid := scalar_over
end Go.Proofs.Qxb6621665a
