/-
  FnFormatListMatchesRunByRunModel: the walk.
-/
import Derived.Test.Qxb6620856aDoorFormat
import Derived.Laws.CopyOwn
import Derived.WalkSpells
import Derived.OpenShut
namespace Go.Proofs.Qxb6620856aDoor
open Go.ChangeShapes Go.WideShapes Go.ChangeAt Go.RowKit

/-- What a walk is told of a slice of ints that came in. -/
def IsRow (k : IntKind) (w : World) (a : Option Addr) (len cap : Nat) (zs : List Int) : Prop :=
  (a = none ∧ len = 0 ∧ cap = 0 ∧ zs = []) ∨
  ∃ x, a = some x ∧ len ≤ cap ∧ cap ≤ maxLen ∧ zs.length = cap ∧ (∀ i, i < zs.length → w.cell? (x.add i) = some (.int k (zs.getD i 0))) ∧ ∀ n ∈ zs, (Lit.int k n).wf = true

/-- A slice of the numbers zs. -/
def Row (ao : Option Addr) (n : Nat) (zs : List Int) (w : World) : Prop :=
  zs.length = n ∧ n ≤ 131072 ∧ Pl.Fit zs ∧ (n = 0 ∨ ∃ b off, ao = some ⟨b, off, none⟩ ∧ b < w.heap.size ∧ ∀ j, j < n → w.cell? ⟨b, off + j, none⟩ = some (.int .i64 (zs.getD j 0)))

theorem Row.below {ao : Option Addr} {n : Nat} {zs : List Int} {w w1 : World} (h : Row ao n zs w) (hb : Below w.heap.size w w1) : Row ao n zs w1 := by
  obtain ⟨h1, h2, h3, h4⟩ := h
  refine ⟨h1, h2, h3, ?_⟩
  rcases h4 with h4 | ⟨b, off, e, hb', hc⟩
  · exact .inl h4
  · exact .inr ⟨b, off, e, Nat.lt_of_lt_of_le hb' hb.size, fun j hj => (hb.cell (p := ⟨b, off + j, none⟩) hb').trans (hc j hj)⟩

theorem formatList_any (ao : Option Addr) (n c : Nat) (zs : List Int) (w : World) (h : Row ao n zs w) (htab : Tab w) :
    Calls Tryd.prog 9 #[.slice ao n c] w fun e w' => e = .returned (.string ⟨(Pl.out zs).toArray⟩) ∧ Below w.heap.size w w' := by
  obtain ⟨h1, h2, h3, h4⟩ := h
  rcases h4 with h4 | ⟨b, off, rfl, hb', hc⟩
  · subst h4
    obtain rfl := List.length_eq_zero_iff.1 h1
    exact formatList_none ao c w
  · exact formatList_some b off n c zs w h1 h2 h3 hb' hc htab

set_option maxHeartbeats 400000 in
set_option maxRecDepth 10000 in
theorem runModel_none (ao : Option Addr) (cap : Nat) (w : World) :
    Calls Tryd.prog 10 #[.slice ao 0 cap] w fun e w' => e = .returned (.string ⟨([] : List UInt8).toArray⟩) ∧ Below w.heap.size w w' := by
  have hconv : ∀ w, (convert 26 9 (.slice none 0 0)).run Tryd.prog w = .ok (.string ⟨#[]⟩) w := fun _ => by kernel_rfl
  go_enter Tryd.func10, Tryd.ntmps10
  go_wp2
  refine wp_loop_rounds 1 ?_
  rw [rounds_succ]
  go_wp2
  go_ret
  exact ⟨rfl, Below.refl _ _⟩

theorem runModel_any (ao : Option Addr) (n c : Nat) (zs : List Int) (w : World) (h : Row ao n zs w) :
    Calls Tryd.prog 10 #[.slice ao n c] w fun e w' => e = .returned (.string ⟨(Pl.out zs).toArray⟩) ∧ Below w.heap.size w w' := by
  obtain ⟨h1, h2, h3, h4⟩ := h
  by_cases h0 : n = 0
  · subst h0
    obtain rfl := List.length_eq_zero_iff.1 h1
    exact runModel_none ao c w
  · rcases h4 with h4 | ⟨b, off, rfl, hb', hc⟩
    · exact absurd h4 h0
    · exact runModel_some b off n c zs w h1 (by omega) h2 h3 hb' hc

/-- The copy of a slice that came in. -/
theorem row_copied {n cap : Nat} {zs : List Int} {B : Nat} {w : World} (hz : zs.length = cap) (hl : n ≤ cap) (hn : n ≤ 131072) (hwf : ∀ x ∈ zs, (Lit.int .i64 x).wf = true)
    (hh : w.heap[B]? = some (.cells ((zs.take n).map (Value.int .i64)).toArray 3 (0, 0))) : Row (some ⟨B, 0, none⟩) n (zs.take n) w := by
  have hlen : (zs.take n).length = n := by rw [List.length_take]; omega
  refine ⟨hlen, hn, ?_, .inr ⟨B, 0, rfl, lt_of_block hh, ?_⟩⟩
  · intro j
    by_cases hj : j < n
    · have hm : (zs.take n).getD j 0 ∈ zs := by
        have : (zs.take n).getD j 0 = (zs.take n)[j]'(by omega) := by simp [List.getD, List.getElem?_eq_getElem (show j < (zs.take n).length by omega)]
        rw [this]
        exact List.mem_of_mem_take (List.getElem_mem _)
      have := hwf _ hm
      exact bounds_i64 this
    · have : (zs.take n).getD j 0 = 0 := by simp [List.getD, List.getElem?_eq_none (show (zs.take n).length ≤ j by omega)]
      rw [this]; omega
  · intro j hj
    have : (zs.take n).getD j 0 = (zs.take n)[j]'(by omega) := by simp [List.getD, List.getElem?_eq_getElem (show j < (zs.take n).length by omega)]
    rw [this]
    simp [World.cell?, hh, hj]

theorem Tryd.info3 : (Tryd.prog.info? 3).map (fun i => (i.zero, i.size, i.bytes)) = some (some (.int .i64 0), 1, 8) := by kernel_rfl
theorem Tryd.size3 : (Tryd.prog.info? 3).map (·.size) = some 1 := by kernel_rfl

theorem made_block {B n : Nat} {w : World} {xs : List Value} (h : w.ownsRow B 3 1 (.slice (some ⟨B, 0, none⟩) n n) n xs) : w.heap[B]? = some (.cells xs.toArray 3 (0, 0)) ∧ xs.length = n := by
  have hl := h.1
  rw [Nat.mul_one] at hl
  rcases h.2 with ⟨hv, _⟩ | ⟨g, cap, cur, hv, hb, hg, hle, hm, hs, ht⟩
  · cases hv
  · injection hv with e1 e2 e3
    injection e1 with e1
    injection e1 with e1
    subst e1; subst e3
    rw [List.take_of_length_le (by simp; omega)] at ht
    rw [hg, ← ht]
    exact ⟨by simp, by rw [ht]; exact hl⟩

theorem src_cells {x : Addr} {len : Nat} {zs : List Int} {w w1 : World} {cs : List Value} (hc : ∀ i, i < zs.length → w.cell? (x.add i) = some (.int .i64 (zs.getD i 0))) (hb : Below w.heap.size w w1) (hcs : cs = (zs.take len).map (Value.int .i64)) :
    ∀ j v, cs[j]? = some v → w1.cell? (x.add j) = some v := by
  intro j v hj
  rw [hcs, List.getElem?_map] at hj
  obtain ⟨z, hz, rfl⟩ := Option.map_eq_some_iff.1 hj
  rw [List.getElem?_take] at hz
  split at hz
  · obtain ⟨hlt, hz⟩ := List.getElem?_eq_some_iff.1 hz
    have h := hc j hlt
    have e : zs.getD j 0 = z := by simp [List.getD, List.getElem?_eq_getElem hlt, hz]
    rw [e] at h
    exact (hb.cell (World.block_lt_of_cell? w _ h)).trans h
  · cases hz
theorem cs_length {n cap : Nat} {zs : List Int} {cs : List Value} (hz : zs.length = cap) (hl : n ≤ cap) (hcs : cs = (zs.take n).map (Value.int .i64)) : cs.length = n := by
  rw [hcs, List.length_map, List.length_take]; omega
theorem splice_all {α : Type} {cur cs : List α} {n : Nat} (h1 : cur.length = n) (h2 : cs.length = n) : splice cur 0 cs = cs := by
  unfold splice
  rw [List.take_zero, List.nil_append, List.drop_of_length_le (by omega), List.append_nil]
theorem one_ints {n : Nat} {zs : List Int} {cs : List Value} (hcs : cs = (zs.take n).map (Value.int .i64)) : ∀ v ∈ cs, v.oneCell' = true := by
  intro v hv; rw [hcs] at hv; obtain ⟨z, _, rfl⟩ := List.mem_map.1 hv; rfl

set_option maxHeartbeats 1000000 in
set_option maxRecDepth 10000 in
theorem walk3_copy (x : Addr) (len cap : Nat) (zs : List Int) (w : World) (hn : len ≤ 131072) (hl : len ≤ cap) (hz : zs.length = cap) (hc : ∀ i, i < zs.length → w.cell? (x.add i) = some (.int .i64 (zs.getD i 0))) (hwf : ∀ n ∈ zs, (Lit.int .i64 n).wf = true) (htab : Tab w) :
    Calls Tryd.prog 3 #[.slice (some x) len cap] w fun e w' => e = .returned (.bool true) ∧ Below w.heap.size w w' := by
  obtain ⟨i0, hi, hz0, hz1, hz2⟩ := info_parts Tryd.info3
  have hnil := fun w => run_neq_slice_nil_any (P := Tryd.prog) w 22 3 (some x) len cap 0 0 Tryd.underlying22
  have HZ : Hid (zs.length = cap) := hz
  have HC := (show Hid _ from hc)
  have HT : Hid (Tab w) := htab
  have HW := (show Hid _ from hwf)
  obtain ⟨cs, hcs⟩ : ∃ cs, cs = (zs.take len).map (Value.int .i64) := ⟨_, rfl⟩
  have HCS := (show Hid _ from hcs)
  have HCL := (show Hid _ from cs_length hz hl hcs)
  clear hz hc htab hwf hcs
  go_enter Tryd.func3, Tryd.ntmps3
  go_wp2_with (first | (at_make; refine wpList_make_full _ rfl _ _ 22 rfl w.heap.size 3 i0 (.int .i64 0) 1 Tryd.underlying22 hi hz0 hz1 .i64 .i64 _ _ len rfl rfl rfl rfl ?b2 ?b3 (Nat.le_refl _) ?_) | go_in)
  case b2 => rw [hz2]; omega
  case b3 => unfold maxLen; omega
  intro w1 hown1 hgrow1
  have HB1 := (show Hid _ from made_block hown1)
  have hb1 : Below w.heap.size w w1 := (Below.refl _ _).grown hgrow1 (Nat.le_refl _) (fun k h => by cases h)
  have hsz1 := hb1.size
  have HSRC := (show Hid _ from src_cells HC.out hb1 HCS.out)
  clear hown1 hgrow1
  go_wp2_with (refine wpList_copy_splice rfl (.tmp 15) (.tmp 16) 22 22 rfl 3 Tryd.underlying22 Tryd.size3 _ _ _ _ _ _ rfl rfl w.heap.size 0 _ 3 HB1.out.1 cs ?k1 (fun _ => ⟨rfl, x, rfl, HSRC.out⟩) ?k3 (one_ints HCS.out) w.heap.size w hb1 (Nat.le_refl _) ?_)
  case k1 => rw [HCL.out]; simp
  case k3 => rw [HB1.out.2, HCL.out]; omega
  intro w2 HH hb2
  have HR : Hid (Row (some ⟨w.heap.size, 0, none⟩) len (zs.take len) w2) := by
    show Row _ _ _ _
    have hh := HH.out
    rw [splice_all HB1.out.2 HCL.out, HCS.out] at hh
    exact row_copied HZ.out hl hn HW.out hh
  have HT2 : Hid (Tab w2) := HT.out.below hb2
  have hsz2 := hb2.size
  clear HH HB1 hb1 hsz1 HSRC
  go_wp2_with fail
  refine (formatList_any _ _ _ _ _ HR.out HT2.out).mono ?_
  rintro e w3 ⟨rfl, hb3⟩
  have hsz3 := hb3.size
  have HR3 := (show Hid _ from HR.out.below hb3)
  go_wp2_with fail
  refine (runModel_any _ _ _ _ _ HR3.out).mono ?_
  rintro e w4 ⟨rfl, hb4⟩
  go_wp2
  go_ret
  exact ⟨rfl, hb2.trans ((hb3.mono hsz2).trans (hb4.mono (by omega)))⟩

set_option maxHeartbeats 400000 in
set_option maxRecDepth 10000 in
theorem walk3_nil (w : World) (htab : Tab w) :
    Calls Tryd.prog 3 #[.slice none 0 0] w fun e w' => e = .returned (.bool true) ∧ Below w.heap.size w w' := by
  have hnil := fun w => run_neq_slice_nil_any (P := Tryd.prog) w 22 3 none 0 0 0 0 Tryd.underlying22
  have HT : Hid (Tab w) := htab
  have HR : Hid (Row none 0 [] w) := ⟨rfl, Nat.zero_le _, fun j => by simp, .inl rfl⟩
  clear htab
  go_enter Tryd.func3, Tryd.ntmps3
  go_wp2_with (first | (go_at_call 8; go_in) | fail)
  refine (formatList_any _ _ _ _ _ HR.out HT.out).mono ?_
  rintro e w3 ⟨rfl, hb3⟩
  have hsz3 := hb3.size
  have HR3 : Hid (Row none 0 [] w3) := HR.out.below hb3
  go_wp2_with fail
  refine (runModel_any _ _ _ _ _ HR3.out).mono ?_
  rintro e w4 ⟨rfl, hb4⟩
  go_wp2
  go_ret
  exact ⟨rfl, hb3.trans (hb4.mono (by omega))⟩

set_option maxHeartbeats 400000 in
theorem walk3_big (a : Option Addr) (len cap : Nat) (w : World) (h : 131072 < len) :
    Calls Tryd.prog 3 #[.slice a len cap] w fun e w' => e = .returned (.bool true) ∧ Below w.heap.size w w' := by
  by_cases h2 : len ≤ 1048576
  · go_enter Tryd.func3, Tryd.ntmps3
    go_wp2
    go_ret
    exact ⟨rfl, Below.refl _ _⟩
  · go_enter Tryd.func3, Tryd.ntmps3
    go_wp2
    go_ret
    exact ⟨rfl, Below.refl _ _⟩

theorem walk3 (a : Option Addr) (len cap : Nat) (zs : List Int) (w : World) (h : IsRow .i64 w a len cap zs) (htab : Tab w) :
    Calls Tryd.prog 3 #[.slice a len cap] w fun e w' => e = .returned (.bool true) ∧ Below w.heap.size w w' := by
  by_cases hn : len ≤ 131072
  · rcases h with ⟨rfl, rfl, rfl, rfl⟩ | ⟨x, rfl, hl, _, hz, hc, hwf⟩
    · exact walk3_nil w htab
    · exact walk3_copy x len cap zs w hn hl hz hc hwf htab
  · exact walk3_big a len cap w (by omega)
end Go.Proofs.Qxb6620856aDoor
