/-
  FnFormatListSplitsAtAnyBreak: the walk.
-/
import Derived.Test.Qxb6620856aDoorLaw3
import Derived.Laws.Concat
namespace Go.Proofs.Qxb6620856aDoor
open Go.ChangeShapes Go.WideShapes Go.ChangeAt Go.RowKit

/-- The two texts, joined. -/
def joined (l r : List UInt8) : List UInt8 := if l = [] then r else if r = [] then l else l ++ ([44] ++ r)

theorem joined_left {l r : List UInt8} (h : l.isEmpty = true) : joined l r = r := by
  unfold joined; rw [if_pos (List.isEmpty_iff.1 h)]
theorem ne_of_empty {l : List UInt8} (h : l.isEmpty = false) : l ≠ [] := by intro e; subst e; cases h
theorem joined_both {l r : List UInt8} (h : l.isEmpty = false) (h2 : (!r.isEmpty) = true) : joined l r = l ++ ([44] ++ r) := by
  unfold joined; rw [if_neg (ne_of_empty h), if_neg (ne_of_empty (by simpa using h2))]
theorem joined_right {l r : List UInt8} (h : l.isEmpty = false) (h2 : (!r.isEmpty) = false) : joined l r = l := by
  unfold joined; rw [if_neg (ne_of_empty h), if_pos (List.isEmpty_iff.1 (by simpa using h2))]

/-- The cut falls inside a run. -/
def inRun (zs : List Int) (k : Nat) : Bool := decide (0 < k) && (decide (k < zs.length) && (zs.getD k 0 == wrap64 (zs.getD (k - 1) 0 + 1)))

theorem out_cut {zs : List Int} {k : Nat} (hk : k ≤ zs.length) (h : inRun zs k = false) : Pl.out zs = joined (Pl.out (zs.take k)) (Pl.out (zs.drop k)) := by
  have hb : zs.take k ≠ [] → zs.drop k ≠ [] → (zs.drop k).getD 0 0 ≠ wrap64 ((zs.take k).getD ((zs.take k).length - 1) 0 + 1) := by
    intro h1 h2 e
    have hk0 : 0 < k := by
      rcases Nat.eq_zero_or_pos k with h0 | h0
      · subst h0; simp at h1
      · exact h0
    have hkl : k < zs.length := by
      refine Decidable.by_contra fun hn => h2 ?_
      rw [List.drop_eq_nil_iff]; omega
    have el : (zs.take k).length = k := by rw [List.length_take]; omega
    have e1 : (zs.drop k).getD 0 0 = zs.getD k 0 := by simp [List.getD]
    have e2 : (zs.take k).getD (k - 1) 0 = zs.getD (k - 1) 0 := by
      simp only [List.getD, List.getElem?_take]
      rw [if_pos (by omega)]
    rw [el, e1, e2] at e
    unfold inRun at h
    rw [decide_eq_true hk0, decide_eq_true hkl, e] at h
    simp at h
  have h1 := Pl.out_append hb
  rw [List.take_append_drop] at h1
  rw [h1]
  unfold joined
  by_cases ha : zs.take k = []
  · rw [if_pos ha, ha, Pl.out_nil, if_pos rfl]
  · rw [if_neg ha, if_neg (Pl.out_ne ha)]
    by_cases hd : zs.drop k = []
    · rw [if_pos hd, hd, Pl.out_nil, if_pos rfl]
    · rw [if_neg hd, if_neg (Pl.out_ne hd)]; rfl

theorem out_length {zs : List Int} (h : Pl.Fit zs) : (Pl.out zs).length ≤ 22 * zs.length := Pl.outTo_length h _
theorem fit_take {zs : List Int} (h : Pl.Fit zs) (k : Nat) : Pl.Fit (zs.take k) := by
  intro j
  by_cases hj : j < k
  · have : (zs.take k).getD j 0 = zs.getD j 0 := by simp only [List.getD, List.getElem?_take]; rw [if_pos hj]
    rw [this]; exact h j
  · have : (zs.take k).getD j 0 = 0 := by simp only [List.getD, List.getElem?_take]; rw [if_neg hj]; rfl
    rw [this]; omega
theorem fit_drop {zs : List Int} (h : Pl.Fit zs) (k : Nat) : Pl.Fit (zs.drop k) := by
  intro j
  have : (zs.drop k).getD j 0 = zs.getD (k + j) 0 := by simp [List.getD, List.getElem?_drop]
  rw [this]; exact h _

/-- 'list[:k]'. -/
theorem row_take {B n k : Nat} {zs : List Int} {w : World} (h : Row (some ⟨B, 0, none⟩) n zs w) (hk : k ≤ n) : Row (some ⟨B, 0, none⟩) k (zs.take k) w := by
  obtain ⟨h1, h2, h3, h4⟩ := h
  refine ⟨by rw [List.length_take]; omega, by omega, fit_take h3 k, ?_⟩
  by_cases hk0 : k = 0
  · exact .inl hk0
  · rcases h4 with h4 | ⟨b, off, e, hb, hc⟩
    · omega
    · refine .inr ⟨b, off, e, hb, fun j hj => ?_⟩
      have : (zs.take k).getD j 0 = zs.getD j 0 := by simp only [List.getD, List.getElem?_take]; rw [if_pos hj]
      rw [this]; exact hc j (by omega)
/-- 'list[k:]', k not the length. -/
theorem row_drop {B n k : Nat} {zs : List Int} {w : World} (h : Row (some ⟨B, 0, none⟩) n zs w) (hk : k < n) : Row (some ⟨B, k, none⟩) (n - k) (zs.drop k) w := by
  obtain ⟨h1, h2, h3, h4⟩ := h
  refine ⟨by rw [List.length_drop]; omega, by omega, fit_drop h3 k, ?_⟩
  rcases h4 with h4 | ⟨b, off, e, hb, hc⟩
  · omega
  · injection e with e
    injection e with e1 e2
    subst e1; subst e2
    refine .inr ⟨B, k, rfl, hb, fun j hj => ?_⟩
    have : (zs.drop k).getD j 0 = zs.getD (k + j) 0 := by simp [List.getD, List.getElem?_drop]
    rw [this]
    have := hc (k + j) (by omega)
    rw [Nat.zero_add] at this
    exact this
theorem row_empty {ao : Option Addr} {n : Nat} {zs : List Int} {w : World} (hz : zs = []) (hn : n = 0) : Row ao n zs w := by
  subst hz; subst hn
  exact ⟨rfl, Nat.zero_le _, fun j => by simp, .inl rfl⟩

/-- FormatList, its text under a name. -/
theorem formatList_named (ao : Option Addr) (n c : Nat) (zs : List Int) (l : List UInt8) (w : World) (h : Row ao n zs w) (htab : Tab w) (hl : l = Pl.out zs) :
    Calls Tryd.prog 9 #[.slice ao n c] w fun e w' => e = .returned (.string ⟨l.toArray⟩) ∧ Below w.heap.size w w' := by
  subst hl; exact formatList_any ao n c zs w h htab

theorem ret_bool {b : Bool} (h : b = true) : Ending.returned (.bool b) = .returned (.bool true) := by rw [h]
theorem count_hit {s : List UInt8} {q : Nat} (hq : q < (⟨s.toArray⟩ : ByteArray).size) (h : (((⟨s.toArray⟩ : ByteArray)[q].toNat : Int) == 44) = true) : (s.take (q + 1)).count 44 = (s.take q).count 44 + 1 := by
  have hq' : q < s.length := by simpa [ByteArray.size] using hq
  have e : (⟨s.toArray⟩ : ByteArray)[q] = s[q] := rfl
  rw [e] at h
  have h2 : s[q] = 44 := by
    have h3 : (s[q].toNat : Int) = 44 := by simpa using h
    exact UInt8.toNat_inj.1 (by show s[q].toNat = 44; omega)
  rw [List.take_succ_eq_append_getElem hq', List.count_append, h2]
  rfl
theorem count_miss {s : List UInt8} {q : Nat} (hq : q < (⟨s.toArray⟩ : ByteArray).size) (h : (((⟨s.toArray⟩ : ByteArray)[q].toNat : Int) == 44) = false) : (s.take (q + 1)).count 44 = (s.take q).count 44 := by
  have hq' : q < s.length := by simpa [ByteArray.size] using hq
  have e : (⟨s.toArray⟩ : ByteArray)[q] = s[q] := rfl
  rw [e] at h
  have h2 : s[q] ≠ 44 := by
    intro h3
    rw [h3] at h
    exact absurd h (by decide)
  rw [List.take_succ_eq_append_getElem hq', List.count_append, List.count_singleton, if_neg (by simpa using h2)]
  rfl
theorem str_eq {l l' : List UInt8} (h : l = l') : Value.string ⟨l.toArray⟩ = .string ⟨l'.toArray⟩ := by rw [h]
theorem Row.cells {B n : Nat} {zs : List Int} {w : World} (h : Row (some ⟨B, 0, none⟩) n zs w) (j : Nat) (hj : j < n) : w.cell? ⟨B, j, none⟩ = some (.int .i64 (zs.getD j 0)) := by
  obtain ⟨h1, h2, h3, h4⟩ := h
  rcases h4 with h4 | ⟨b, off, e, hb, hc⟩
  · omega
  · injection e with e
    injection e with e1 e2
    subst e1; subst e2
    have := hc j hj
    rw [Nat.zero_add] at this
    exact this
theorem Row.heap {ao : Option Addr} {n : Nat} {zs : List Int} {w w1 : World} (h : Row ao n zs w) (hh : w1.heap = w.heap) : Row ao n zs w1 := by
  obtain ⟨h1, h2, h3, h4⟩ := h
  refine ⟨h1, h2, h3, ?_⟩
  rcases h4 with h4 | ⟨b, off, e, hb, hc⟩
  · exact .inl h4
  · exact .inr ⟨b, off, e, by rw [hh]; exact hb, fun j hj => cell_heap (hc j hj) hh⟩
theorem inRun_zero (zs : List Int) (k : Nat) (h : ¬ 0 < k) : inRun zs k = false := by unfold inRun; rw [decide_eq_false h]; rfl
theorem inRun_last (zs : List Int) (k : Nat) (h : ¬ k < zs.length) : inRun zs k = false := by unfold inRun; rw [decide_eq_false h]; simp
theorem inRun_mid {zs : List Int} {k : Nat} {zk zp : Int} (h0 : 0 < k) (h1 : k < zs.length) (hk : zk = zs.getD k 0) (hp : zp = zs.getD (k - 1) 0) : inRun zs k = (zk == wrap64 (zp + 1)) := by
  unfold inRun; rw [decide_eq_true h0, decide_eq_true h1, hk, hp]; rfl

set_option maxHeartbeats 1000000 in
set_option maxRecDepth 10000 in
theorem walk6_some (x : Addr) (len cap : Nat) (zs : List Int) (K : Nat) (w : World) (hn0 : 0 < len) (hn : len ≤ 131072) (hK : K ≤ len) (hl : len ≤ cap) (hz : zs.length = cap) (hc : ∀ i, i < zs.length → w.cell? (x.add i) = some (.int .i64 (zs.getD i 0))) (hwf : ∀ n ∈ zs, (Lit.int .i64 n).wf = true) (htab : Tab w) :
    Calls Tryd.prog 6 #[.slice (some x) len cap, .int .i64 K] w fun e w' => e = .returned (.bool true) ∧ Below w.heap.size w w' := by
  obtain ⟨i0, hi, hz0, hz1, hz2⟩ := info_parts Tryd.info3
  have hnil := fun w => run_neq_slice_nil_any (P := Tryd.prog) w 22 3 (some x) len cap 0 0 Tryd.underlying22
  have HZ : Hid (zs.length = cap) := hz
  have HC := (show Hid _ from hc)
  have HT : Hid (Tab w) := htab
  have HW := (show Hid _ from hwf)
  obtain ⟨cs, hcs⟩ : ∃ cs, cs = (zs.take len).map (Value.int .i64) := ⟨_, rfl⟩
  have HCS := (show Hid _ from hcs)
  have HCL := (show Hid _ from cs_length hz hl hcs)
  clear hz hc htab hwf hcs
  go_enter Tryd.func6, Tryd.ntmps6
  go_wp2_with (first | (at_make; refine wpList_make_full _ rfl _ _ 22 rfl w.heap.size 3 i0 (.int .i64 0) 1 Tryd.underlying22 hi hz0 hz1 .i64 .i64 _ _ len rfl rfl rfl rfl ?b2 ?b3 (Nat.le_refl _) ?_) | go_in)
  case b2 => rw [hz2]; omega
  case b3 => unfold maxLen; omega
  intro w1 hown1 hgrow1
  have HB1 := (show Hid _ from made_block hown1)
  have hb1 : Below w.heap.size w w1 := (Below.refl _ _).grown hgrow1 (Nat.le_refl _) (fun k h => by cases h)
  have hsz1 := hb1.size
  have HSRC := (show Hid _ from src_cells HC.out hb1 HCS.out)
  clear hown1 hgrow1
  go_wp2_with (refine wpList_copy_splice rfl (.tmp 27) (.tmp 28) 22 22 rfl 3 Tryd.underlying22 Tryd.size3 _ _ _ _ _ _ rfl rfl w.heap.size 0 _ 3 HB1.out.1 cs ?k1 (fun _ => ⟨rfl, x, rfl, HSRC.out⟩) ?k3 (one_ints HCS.out) w.heap.size w hb1 (Nat.le_refl _) ?_)
  case k1 => rw [HCL.out]; simp
  case k3 => rw [HB1.out.2, HCL.out]; omega
  intro w2 HH hb2
  obtain ⟨ys, hys⟩ : ∃ ys, ys = zs.take len := ⟨_, rfl⟩
  have HR : Hid (Row (some ⟨w.heap.size, 0, none⟩) len ys w2) := by
    show Row _ _ _ _
    have hh := HH.out
    rw [splice_all HB1.out.2 HCL.out, HCS.out] at hh
    rw [hys]
    exact row_copied HZ.out hl hn HW.out hh
  have HT2 : Hid (Tab w2) := HT.out.below hb2
  have hsz2 := hb2.size
  clear hys HH HB1 hb1 hsz1 HSRC HW HC HZ HCS HCL HT
  obtain ⟨G, hG⟩ : ∃ G, G = inRun ys K := ⟨_, rfl⟩
  have HG : Hid (G = inRun ys K) := hG
  clear hG
  have HYL : Hid (ys.length = len) := HR.out.1
  go_wp2
  go_cut [59] (fun s wx => s = .bool G ∧ Row (some ⟨w.heap.size, 0, none⟩) len ys wx ∧ Tab wx ∧ Below w.heap.size w wx)
  case first =>
    by_cases hk0 : 0 < K
    · have hd0 : decide ((0 : Int) < (K : Int)) = true := decide_eq_true (by omega)
      by_cases hkl : K < len
      · have hd1 : decide ((K : Int) < (len : Int)) = true := decide_eq_true (by omega)
        obtain ⟨zk, hzk⟩ : ∃ zk, zk = ys.getD K 0 := ⟨_, rfl⟩
        obtain ⟨zp, hzp⟩ : ∃ zp, zp = ys.getD (K - 1) 0 := ⟨_, rfl⟩
        have hck : w2.cell? ⟨w.heap.size, K, none⟩ = some (.int .i64 zk) := by rw [hzk]; exact HR.out.cells K hkl
        have hcp : w2.cell? ⟨w.heap.size, K - 1, none⟩ = some (.int .i64 zp) := by rw [hzp]; exact HR.out.cells (K - 1) (by omega)
        have HZK := (show Hid _ from hzk)
        have HZP := (show Hid _ from hzp)
        clear hzk hzp
        have hq1 : (0 : Int) ≤ (K : Int) - 1 := by omega
        have hq2 : (K : Int) - 1 < (len : Int) := by omega
        have hq3 : (K : Int) < (len : Int) := by omega
        have hq4 : (0 : Int) < (K : Int) := by omega
        go_quiet (fail)
        go_wp2
        go_meet
        exact ⟨by rw [HG.out, inRun_mid hk0 (by rw [HYL.out]; exact hkl) HZK.out HZP.out], HR.out.heap rfl, HT2.out.below ((Below.refl _ _).trans (below_quiet (Below.refl _ _) _)), below_quiet hb2 _⟩
      · have hd1 : decide ((K : Int) < (len : Int)) = false := decide_eq_false (by omega)
        go_quiet (fail)
        go_wp2
        go_meet
        exact ⟨by rw [HG.out, inRun_last _ _ (by rw [HYL.out]; exact hkl)], HR.out.heap rfl, HT2.out.below (below_quiet (Below.refl _ _) _), below_quiet hb2 _⟩
    · have hd0 : decide ((0 : Int) < (K : Int)) = false := decide_eq_false (by omega)
      go_quiet (fail)
      go_wp2
      go_meet
      exact ⟨by rw [HG.out, inRun_zero _ _ hk0], HR.out.heap rfl, HT2.out.below (below_quiet (Below.refl _ _) _), below_quiet hb2 _⟩
  case rest =>
    obtain ⟨rfl, hRc, hTc, hbc⟩ := hcut
    cases G
    · have HRc : Hid (Row (some ⟨w.heap.size, 0, none⟩) len ys wc) := hRc
      have HTc : Hid (Tab wc) := hTc
      have hszc := hbc.size
      clear hRc hTc HR HT2 hb2 hsz2
      obtain ⟨sw, hsw⟩ : ∃ sw, sw = Pl.out ys := ⟨_, rfl⟩
      obtain ⟨sl, hsl⟩ : ∃ sl, sl = Pl.out (ys.take K) := ⟨_, rfl⟩
      obtain ⟨sr, hsr⟩ : ∃ sr, sr = Pl.out (ys.drop K) := ⟨_, rfl⟩
      have HSW := (show Hid _ from hsw)
      have HSL := (show Hid _ from hsl)
      have HSR := (show Hid _ from hsr)
      have HJ : Hid (sw = joined sl sr) := by
        show sw = joined sl sr
        rw [hsw, hsl, hsr]; exact out_cut (by rw [HYL.out]; exact hK) HG.out.symm
      have hlw : sw.length ≤ 2883584 := by have := out_length HRc.out.2.2.1; rw [HYL.out] at this; rw [hsw]; omega
      have hll : sl.length ≤ 2883584 := by have := out_length (fit_take HRc.out.2.2.1 K); rw [List.length_take, HYL.out] at this; rw [hsl]; omega
      have hlr : sr.length ≤ 2883584 := by have := out_length (fit_drop HRc.out.2.2.1 K); rw [List.length_drop, HYL.out] at this; rw [hsr]; omega
      clear hsw hsl hsr
      go_wp2_with fail
      refine (formatList_named _ _ _ ys sw _ HRc.out HTc.out HSW.out).mono ?_
      rintro e w3 ⟨rfl, hb3⟩
      have HR3 : Hid (Row (some ⟨w.heap.size, 0, none⟩) len ys w3) := HRc.out.below hb3
      have HT3 : Hid (Tab w3) := HTc.out.below hb3
      have hb3' := hbc.trans (hb3.mono hszc)
      have hsz3 := hb3'.size
      clear hb3 HRc HTc hbc hszc
      go_wp2_with fail
      refine (formatList_named _ _ _ (ys.take K) sl _ (row_take HR3.out hK) HT3.out HSL.out).mono ?_
      rintro e w4 ⟨rfl, hb4⟩
      have HR4 : Hid (Row (some ⟨w.heap.size, 0, none⟩) len ys w4) := HR3.out.below hb4
      have HT4 : Hid (Tab w4) := HT3.out.below hb4
      have hb4' := hb3'.trans (hb4.mono hsz3)
      have hsz4 := hb4'.size
      clear hb4 HR3 HT3 hb3' hsz3
      go_upto_region 16 with fail
      go_cut [9] (fun s wx => s = .string ⟨sr.toArray⟩ ∧ Row (some ⟨w.heap.size, 0, none⟩) len ys wx ∧ Below w.heap.size w wx)
      case first =>
        by_cases hkl : K < len
        · have hne : ¬ len = K := by omega
          go_wp2_with fail
          refine (formatList_named _ _ _ (ys.drop K) sr _ (row_drop HR4.out hkl) HT4.out HSR.out).mono ?_
          rintro e w5 ⟨rfl, hb5⟩
          go_wp2
          go_meet
          exact ⟨rfl, HR4.out.below hb5, hb4'.trans (hb5.mono hsz4)⟩
        · have hne : len = K := by omega
          have HNE := (show Hid _ from hne)
          clear hne
          go_wp2_with fail
          refine (formatList_named _ _ _ (ys.drop K) sr _ (row_empty (List.drop_eq_nil_iff.2 (by rw [HYL.out]; omega)) (by omega)) HT4.out HSR.out).mono ?_
          rintro e w5 ⟨rfl, hb5⟩
          go_wp2
          go_meet
          exact ⟨rfl, HR4.out.below hb5, hb4'.trans (hb5.mono hsz4)⟩
      case rest =>
        obtain ⟨rfl, hR5, hb5⟩ := hcut
        have HR5 : Hid (Row (some ⟨w.heap.size, 0, none⟩) len ys wc) := hR5
        clear hR5 HR4 HT4 hb4' hsz4
        go_upto_if 72 with fail
        go_cut [10] (fun s wx => s = .string ⟨sw.toArray⟩ ∧ Row (some ⟨w.heap.size, 0, none⟩) len ys wx ∧ Below w.heap.size w wx)
        case first =>
          obtain ⟨s1, hs1⟩ : ∃ s1, s1 = sl ++ [44] := ⟨_, rfl⟩
          obtain ⟨s2, hs2⟩ : ∃ s2, s2 = s1 ++ sr := ⟨_, rfl⟩
          have HS2 : Hid (s2 = sl ++ ([44] ++ sr)) := by show s2 = _; rw [hs2, hs1, List.append_assoc]
          have hl1 : s1.length ≤ 2883585 := by rw [hs1, List.length_append]; simp only [List.length_singleton]; omega
          have hadd1 := fun w => run_string_add_lists (P := Tryd.prog) w sl [44] (by omega) (by simp)
          rw [← hs1] at hadd1
          have hadd2 := fun w => run_string_add_lists (P := Tryd.prog) w s1 sr (by omega) (by omega)
          rw [← hs2] at hadd2
          clear hs1 hs2
          go_wp2
          · have h1 : sl.isEmpty = true := by assumption
            go_meet
            exact ⟨str_eq (by rw [HJ.out, joined_left h1]), HR5.out, hb5⟩
          · have h1 : sl.isEmpty = false := by assumption
            have h2 : (!sr.isEmpty) = true := by assumption
            go_meet
            exact ⟨str_eq (by rw [HJ.out, joined_both h1 h2, HS2.out]), HR5.out, hb5⟩
          · have h1 : sl.isEmpty = false := by assumption
            have h2 : (!sr.isEmpty) = false := by assumption
            go_meet
            exact ⟨str_eq (by rw [HJ.out, joined_right h1 h2]), HR5.out, hb5⟩
        case rest =>
          obtain ⟨rfl, hR6, hb6⟩ := hcut
          have HR6 : Hid (Row (some ⟨w.heap.size, 0, none⟩) len ys wc) := hR6
          clear hR6 HR5 hb5
          go_wp2
          go_loopw [11, 12] (fun br i wr => ∃ j : Nat, 1 ≤ j ∧ j ≤ len ∧ i = .int .i64 j ∧ br = .int .i64 (Pl.breaks ys j : Nat) ∧ Row (some ⟨w.heap.size, 0, none⟩) len ys wr ∧ Below w.heap.size w wr)
            (fun _ i _ => len - (intOf i).toNat)
          case atStart => exact ⟨1, Nat.le_refl _, by omega, rfl, rfl, HR6.out, hb6⟩
          case round =>
            obtain ⟨j, hj1, hjl, rfl, rfl, hR, hb⟩ := hrel
            have HR : Hid (Row (some ⟨w.heap.size, 0, none⟩) len ys wr) := hR
            clear hR HR6 hb6
            have hbl := Pl.breaks_le ys j
            by_cases hlt : j < len
            · obtain ⟨zk, hzk⟩ : ∃ zk, zk = ys.getD j 0 := ⟨_, rfl⟩
              obtain ⟨zp, hzp⟩ : ∃ zp, zp = ys.getD (j - 1) 0 := ⟨_, rfl⟩
              have hck : wr.cell? ⟨w.heap.size, j, none⟩ = some (.int .i64 zk) := by rw [hzk]; exact HR.out.cells j hlt
              have hcp : wr.cell? ⟨w.heap.size, j - 1, none⟩ = some (.int .i64 zp) := by rw [hzp]; exact HR.out.cells (j - 1) (by omega)
              have HZK := (show Hid _ from hzk)
              have HZP := (show Hid _ from hzp)
              clear hzk hzp
              have hq1 : (0 : Int) ≤ (j : Int) - 1 := by omega
              have hq2 : (j : Int) - 1 < (len : Int) := by omega
              have hq3 : (j : Int) < (len : Int) := by omega
              by_cases hne : zk = wrap64 (zp + 1)
              · have hb0 : (zk != wrap64 (zp + 1)) = false := by simpa using hne
                have HN : Hid (Pl.breaks ys (j + 1) = Pl.breaks ys j) := by show _ = _; exact Pl.breaks_miss (by omega) (by rw [← HZK.out, ← HZP.out]; exact hne)
                clear hne
                go_wp2
                go_quiet (fail)
                go_wp2
                go_roundw
                case rel => exact ⟨j + 1, by omega, by omega, by go_num, by rw [HN.out], HR.out.heap rfl, below_quiet hb _⟩
                case measure => simp [intOf]; omega
              · have hb0 : (zk != wrap64 (zp + 1)) = true := by simpa using hne
                have HN : Hid (Pl.breaks ys (j + 1) = Pl.breaks ys j + 1) := by show _ = _; exact Pl.breaks_hit (by omega) (by rw [← HZK.out, ← HZP.out]; exact hne)
                clear hne
                go_wp2
                go_quiet (fail)
                go_wp2
                go_roundw
                case rel => exact ⟨j + 1, by omega, by omega, by go_num, by rw [HN.out]; go_num, HR.out.heap rfl, below_quiet hb _⟩
                case measure => simp [intOf]; omega
            · obtain rfl : j = len := by omega
              have HBR : Hid (Pl.breaks ys j = sw.count 44) := by show _ = _; rw [HSW.out, ← Pl.count_outTo]; unfold Pl.out; rw [HYL.out]
              have hsw0 : sw.isEmpty = false := by
                have h1 := Pl.out_ne (zs := ys) (by intro e; have := HYL.out; rw [e] at this; simp at this; omega)
                rw [← HSW.out] at h1
                cases sw with
                | nil => exact absurd rfl h1
                | cons a b => rfl
              go_wp2
              go_loop [13, 14] (fun cm i => ∃ q : Nat, q ≤ sw.length ∧ i = .int .i64 q ∧ cm = .int .i64 ((sw.take q).count 44 : Nat)) (fun _ i => sw.length - (intOf i).toNat)
              case atStart => exact ⟨0, Nat.zero_le _, rfl, rfl⟩
              case round =>
                obtain ⟨q, hq, rfl, rfl⟩ := hrel
                have hcl : (sw.take q).count 44 ≤ q := by
                  have h1 := List.count_le_length (a := (44 : UInt8)) (l := sw.take q)
                  rw [List.length_take] at h1; omega
                by_cases hlt : q < sw.length
                · go_wp2
                  · have h1 := count_hit (by rw [size_str]; exact hlt) (by assumption)
                    have H1 := (show Hid _ from h1)
                    clear h1
                    go_round
                    case rel => exact ⟨q + 1, by omega, by go_num, by rw [H1.out]; go_num⟩
                    case measure => simp [intOf]; omega
                  · have h1 := count_miss (by rw [size_str]; exact hlt) (by assumption)
                    have H1 := (show Hid _ from h1)
                    clear h1
                    go_round
                    case rel => exact ⟨q + 1, by omega, by go_num, by rw [H1.out]⟩
                    case measure => simp [intOf]; omega
                · go_wp2
                  go_ret
                  exact ⟨ret_bool (by rw [HBR.out, List.take_of_length_le (by omega)]; simp), hb⟩
    · go_wp2
      go_ret
      exact ⟨rfl, hbc⟩

set_option maxHeartbeats 1000000 in
set_option maxRecDepth 10000 in
theorem walk6_out (x : Addr) (len cap : Nat) (zs : List Int) (k : Int) (w : World) (hn : len ≤ 131072) (hk : k < 0 ∨ (len : Int) < k) (hl : len ≤ cap) (hz : zs.length = cap) (hc : ∀ i, i < zs.length → w.cell? (x.add i) = some (.int .i64 (zs.getD i 0))) :
    Calls Tryd.prog 6 #[.slice (some x) len cap, .int .i64 k] w fun e w' => e = .returned (.bool true) ∧ Below w.heap.size w w' := by
  obtain ⟨i0, hi, hz0, hz1, hz2⟩ := info_parts Tryd.info3
  have hnil := fun w => run_neq_slice_nil_any (P := Tryd.prog) w 22 3 (some x) len cap 0 0 Tryd.underlying22
  have HC := (show Hid _ from hc)
  obtain ⟨cs, hcs⟩ : ∃ cs, cs = (zs.take len).map (Value.int .i64) := ⟨_, rfl⟩
  have HCS := (show Hid _ from hcs)
  have HCL := (show Hid _ from cs_length hz hl hcs)
  clear hz hc hcs
  have HK := (show Hid _ from hk)
  clear hk
  go_enter Tryd.func6, Tryd.ntmps6
  go_wp2_with (first | (at_make; refine wpList_make_full _ rfl _ _ 22 rfl w.heap.size 3 i0 (.int .i64 0) 1 Tryd.underlying22 hi hz0 hz1 .i64 .i64 _ _ len rfl rfl rfl rfl ?b2 ?b3 (Nat.le_refl _) ?_) | go_in)
  case b2 => rw [hz2]; omega
  case b3 => unfold maxLen; omega
  intro w1 hown1 hgrow1
  have HB1 := (show Hid _ from made_block hown1)
  have hb1 : Below w.heap.size w w1 := (Below.refl _ _).grown hgrow1 (Nat.le_refl _) (fun k h => by cases h)
  have hsz1 := hb1.size
  have HSRC := (show Hid _ from src_cells HC.out hb1 HCS.out)
  clear hown1 hgrow1
  go_upto_region 7 with fail
  go_wp2_with (refine wpList_copy_splice rfl (.tmp 27) (.tmp 28) 22 22 rfl 3 Tryd.underlying22 Tryd.size3 _ _ _ _ _ _ rfl rfl w.heap.size 0 _ 3 HB1.out.1 cs ?k1 (fun _ => ⟨rfl, x, rfl, HSRC.out⟩) ?k3 (one_ints HCS.out) w.heap.size w hb1 (Nat.le_refl _) ?_)
  case k1 => rw [HCL.out]; simp
  case k3 => rw [HB1.out.2, HCL.out]; omega
  intro w2 HH hb2
  clear HH HB1 hb1 hsz1 HSRC HC HCS HCL
  by_cases hneg : k < 0
  · go_wp2
    go_ret
    exact ⟨rfl, hb2⟩
  · have hgt : (len : Int) < k := by rcases HK.out with h | h; · exact absurd h hneg
                                     exact h
    go_wp2
    go_ret
    exact ⟨rfl, hb2⟩

set_option maxHeartbeats 400000 in
theorem walk6_big (a : Option Addr) (len cap : Nat) (k : Int) (w : World) (h : 131072 < len) :
    Calls Tryd.prog 6 #[.slice a len cap, .int .i64 k] w fun e w' => e = .returned (.bool true) ∧ Below w.heap.size w w' := by
  by_cases h2 : len ≤ 1048576
  · go_enter Tryd.func6, Tryd.ntmps6
    go_wp2
    go_ret
    exact ⟨rfl, Below.refl _ _⟩
  · go_enter Tryd.func6, Tryd.ntmps6
    go_wp2
    go_ret
    exact ⟨rfl, Below.refl _ _⟩

set_option maxHeartbeats 400000 in
theorem walk6_nil_out (k : Int) (w : World) (hk : k ≠ 0) :
    Calls Tryd.prog 6 #[.slice none 0 0, .int .i64 k] w fun e w' => e = .returned (.bool true) ∧ Below w.heap.size w w' := by
  have hnil := fun w => run_neq_slice_nil_any (P := Tryd.prog) w 22 3 none 0 0 0 0 Tryd.underlying22
  by_cases h2 : k < 0
  · clear hk
    go_enter Tryd.func6, Tryd.ntmps6
    go_wp2
    go_ret
    exact ⟨rfl, Below.refl _ _⟩
  · have h3 : 0 < k := by omega
    clear hk h2
    go_enter Tryd.func6, Tryd.ntmps6
    go_wp2
    go_ret
    exact ⟨rfl, Below.refl _ _⟩

end Go.Proofs.Qxb6620856aDoor
