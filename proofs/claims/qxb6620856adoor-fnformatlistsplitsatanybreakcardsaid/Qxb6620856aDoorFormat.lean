/-
  FormatList: it writes 'Pl.out'.
-/
import Derived.Test.Qxb6620856aDoorBuilder
namespace Go.Proofs.Qxb6620856aDoor
open Go.ChangeShapes Go.WideShapes Go.ChangeAt Go.RowKit

/-- The library's table of powers is laid. -/
def Tab (w : World) : Prop := Lib.TabIs Tryd.prog w tabName .u64 Lib.pow10Tab
theorem Tab.below {w wr : World} (h : Tab w) (hb : Below w.heap.size w wr) : Tab wr := Lib.tabBelow_of_tabIs h wr hb

theorem itoa_any (n : Int) (h0 : -9223372036854775808 ≤ n) (h1 : n ≤ 9223372036854775807) (w : World) (htab : Tab w) :
    Calls Tryd.prog 19 #[.int .i64 n] w fun e w' => e = .returned (.string ⟨(Lib.itoa n).toArray⟩) ∧ Below w.heap.size w w' := by
  refine (Tryd.strconv_Itoa n h0 h1 w htab).mono ?_
  rintro e w' ⟨rfl, k, os, rfl⟩
  exact ⟨rfl, Lib.below_grow _ _ (Nat.le_refl _) _ _⟩

theorem len_any (B b : Nat) (bs : List Value) (L : Nat) (w : World) (h : Lib.IsBuilder 33 5 B b bs w) (hL : bs.length = L) :
    Calls Tryd.prog 16 #[.pointer (some ⟨b, 0, none⟩)] w fun e w' => e = .returned (.int .i64 L) ∧ w' = w := by
  subst hL; exact Tryd.Builder_Len B b bs w h

theorem size_str (l : List UInt8) : (⟨l.toArray⟩ : ByteArray).size = l.length := by simp [ByteArray.size]
theorem cells_app (l m : List UInt8) : Lib.byteCells l ++ Lib.strCells ⟨m.toArray⟩ = Lib.byteCells (l ++ m) := by
  rw [strCells_byteCells]; simp [Lib.byteCells]
theorem cells_snoc (l : List UInt8) (c : UInt8) : Lib.byteCells l ++ [.int .u8 (c.toNat : Int)] = Lib.byteCells (l ++ [c]) := snoc_cells l c

theorem builder_heap {T e B b : Nat} {bs : List Value} {w w1 : World} (h : Lib.IsBuilder T e B b bs w) (hb : w1.heap = w.heap) : Lib.IsBuilder T e B b bs w1 := by
  have key : ∀ p, Lib.BuilderAt T e B b p bs w → Lib.BuilderAt T e B b p bs w1 := by
    rintro p ⟨h1, v, h2, h3, h4⟩
    exact ⟨h1, v, by rw [hb]; exact h2, owns_heap h3 hb, h4⟩
  rcases h with h | h
  · exact .inl (key _ h)
  · exact .inr (key _ h)
theorem run_next {zs : List Int} {k last : Nat} (hrun : ∀ j, k < j → j ≤ last → zs.getD j 0 = wrap64 (zs.getD (j - 1) 0 + 1)) (hE : Pl.isEnd zs last = false) : ∀ j, k < j → j ≤ last + 1 → zs.getD j 0 = wrap64 (zs.getD (j - 1) 0 + 1) := by
  intro j h1 h2
  by_cases h : j ≤ last
  · exact hrun j h1 h
  · obtain rfl : j = last + 1 := by omega
    refine Decidable.by_contra fun hne => ?_
    rw [Pl.isEnd_of_ne (by simpa using hne)] at hE
    exact absurd hE (by simp)
theorem last_of_end {zs : List Int} {last : Nat} (hl : last < zs.length) (hE : Pl.isEnd zs last = false) : last + 1 < zs.length := by
  refine Decidable.by_contra fun hne => ?_
  rw [Pl.isEnd_last (by omega)] at hE
  exact absurd hE (by simp)
theorem start_of_end {zs : List Int} {last : Nat} (hl : last + 1 < zs.length) (hE : Pl.isEnd zs last = true) : Pl.isStart zs (last + 1) = true := by
  refine Pl.isStart_of_ne fun h => ?_
  rw [Pl.isEnd_false (by omega) (by simpa using h)] at hE
  exact absurd hE (by simp)
theorem go_on {zs : List Int} {k : Nat} {zk zn : Int} (hk : k + 1 ≠ zs.length) (h1 : zk = zs.getD k 0) (h2 : zn = zs.getD (k + 1) 0) : (zn == wrap64 (zk + 1)) = !Pl.isEnd zs k := by
  have := end_ne hk h1 h2
  rw [← this]
  simp [bne]

set_option maxHeartbeats 1000000 in
set_option maxRecDepth 10000 in
theorem formatList_some (b off n cap : Nat) (zs : List Int) (w : World) (hz : zs.length = n) (hn : n ≤ 131072) (hfit : Pl.Fit zs) (hbB : b < w.heap.size)
    (hc : ∀ j, j < n → w.cell? ⟨b, off + j, none⟩ = some (.int .i64 (zs.getD j 0))) (htab : Tab w) :
    Calls Tryd.prog 9 #[.slice (some ⟨b, off, none⟩) n cap] w fun e w' => e = .returned (.string ⟨(Pl.out zs).toArray⟩) ∧ Below w.heap.size w w' := by
  have HZ : Hid (zs.length = n) := hz
  have HF : Hid (Pl.Fit zs) := hfit
  have HC : Hid (∀ j, j < n → w.cell? ⟨b, off + j, none⟩ = some (.int .i64 (zs.getD j 0))) := hc
  have HT : Hid (Tab w) := htab
  clear hz hfit hc htab
  go_enter Tryd.func9, Tryd.ntmps9
  go_wp2
  go_loopw [4] (fun i wr => ∃ k : Nat, k ≤ n ∧ i = .int .i64 k ∧ (k < n → Pl.isStart zs k = true) ∧ Lib.IsBuilder 33 5 w.heap.size w.heap.size (Lib.byteCells (Pl.outTo zs k)) wr ∧ Below w.heap.size w wr)
    (fun i _ => n - (intOf i).toNat)
  case atStart => exact ⟨0, Nat.zero_le _, rfl, fun _ => Pl.isStart_zero zs, Lib.fresh_isBuilder 33 5 w, (Below.refl _ _).alloc (Nat.le_refl _) _⟩
  case round =>
    obtain ⟨k, hk, rfl, hst, hB, hb⟩ := hrel
    have HB : Hid (Lib.IsBuilder 33 5 w.heap.size w.heap.size (Lib.byteCells (Pl.outTo zs k)) wr) := hB
    clear hB
    by_cases hlt : k < n
    · have HS : Hid (Pl.isStart zs k = true) := hst hlt
      clear hst
      go_wp2
      go_loopw [5] (fun l wx => ∃ last : Nat, k ≤ last ∧ last < n ∧ l = .int .i64 last ∧ (∀ j, k < j → j ≤ last → zs.getD j 0 = wrap64 (zs.getD (j - 1) 0 + 1)) ∧ Lib.IsBuilder 33 5 w.heap.size w.heap.size (Lib.byteCells (Pl.outTo zs k)) wx ∧ Below w.heap.size w wx)
        (fun l _ => n - (intOf l).toNat)
      case atStart => exact ⟨k, Nat.le_refl _, hlt, rfl, fun j h1 h2 => by omega, HB.out, hb⟩
      case round =>
        obtain ⟨last, hkl, hln, rfl, hrun, hB1, hb1⟩ := hrel
        have HB1 : Hid (Lib.IsBuilder 33 5 w.heap.size w.heap.size (Lib.byteCells (Pl.outTo zs k)) wr) := hB1
        have HR : Hid (∀ j, k < j → j ≤ last → zs.getD j 0 = wrap64 (zs.getD (j - 1) 0 + 1)) := hrun
        clear hB1 hrun hb HB
        obtain ⟨zl, hzl⟩ : ∃ zl, zl = zs.getD last 0 := ⟨_, rfl⟩
        have hcl : wr.cell? ⟨b, off + last, none⟩ = some (.int .i64 zl) := by rw [hzl]; exact (hb1.cell (p := ⟨b, off + last, none⟩) hbB).trans (HC.out last hln)
        have HZL := (show Hid _ from hzl)
        clear hzl
        obtain ⟨G, hG⟩ : ∃ G, G = !Pl.isEnd zs last := ⟨_, rfl⟩
        have HG : Hid (G = !Pl.isEnd zs last) := hG
        clear hG
        go_wp2
        go_cut [28] (fun s wx => s = .bool G ∧ Lib.IsBuilder 33 5 w.heap.size w.heap.size (Lib.byteCells (Pl.outTo zs k)) wx ∧ Below w.heap.size w wx)
        case first =>
          by_cases hl1 : last + 1 < n
          · obtain ⟨zn, hzn⟩ : ∃ zn, zn = zs.getD (last + 1) 0 := ⟨_, rfl⟩
            have hcn : wr.cell? ⟨b, off + (last + 1), none⟩ = some (.int .i64 zn) := by rw [hzn]; exact (hb1.cell (p := ⟨b, off + (last + 1), none⟩) hbB).trans (HC.out (last + 1) hl1)
            have HZN := (show Hid _ from hzn)
            clear hzn
            have hq1 : ((last : Int) + 1) < (n : Int) := by omega
            have hq2 : (last : Int) < (n : Int) := by omega
            go_quiet (fail)
            go_wp2
            go_meet
            exact ⟨by rw [HG.out, go_on (by rw [HZ.out]; omega) HZL.out HZN.out], builder_heap HB1.out rfl, below_quiet hb1 _⟩
          · have hd : decide (((last : Int) + 1) < (n : Int)) = false := decide_eq_false (by omega)
            go_quiet (fail)
            go_wp2
            go_meet
            exact ⟨by rw [HG.out, Pl.isEnd_last (by rw [HZ.out]; omega)]; rfl, builder_heap HB1.out rfl, below_quiet hb1 _⟩
        case rest =>
          obtain ⟨rfl, hB2, hb2⟩ := hcut
          have HB2 : Hid (Lib.IsBuilder 33 5 w.heap.size w.heap.size (Lib.byteCells (Pl.outTo zs k)) wc) := hB2
          clear hB2 hb1 HB1 hcl
          cases G
          · have HE : Hid (Pl.isEnd zs last = true) := by show Pl.isEnd zs last = true; have := HG.out; simpa using this
            obtain ⟨L, hL⟩ : ∃ L, (Lib.byteCells (Pl.outTo zs k)).length = L := ⟨_, rfl⟩
            have HL := (show Hid _ from hL)
            have hLn : L ≤ 22 * k := by rw [← hL, Lib.byteCells_length]; exact Pl.outTo_length HF.out k
            have hL0 : 0 < k → 0 < L := fun h => by rw [← hL, Lib.byteCells_length]; exact List.length_pos_iff.2 (Pl.outTo_ne zs k h)
            clear hL
            have hsz2 := hb2.size
            go_wp2_with fail
            refine (len_any _ _ _ L _ HB2.out HL.out).mono ?_
            rintro e w2 ⟨rfl, hw2⟩
            rw [hw2]
            clear hw2 w2
            go_upto_if 32 with fail
            go_cut [] (fun wx => Lib.IsBuilder 33 5 w.heap.size w.heap.size (Lib.byteCells (Pl.outTo zs k ++ Pl.sep k)) wx ∧ Below w.heap.size w wx)
            case first =>
              by_cases hk0 : 0 < k
              · have hL1 := hL0 hk0
                go_wp2_with fail
                refine (writeByte_any _ _ _ 44 _ HB2.out (by rw [HL.out]; omega) hsz2).mono ?_
                rintro e w2 ⟨rfl, hB3, hb3⟩
                have HB3 : Hid (Lib.IsBuilder 33 5 w.heap.size w.heap.size (Lib.byteCells (Pl.outTo zs k ++ Pl.sep k)) w2) := by
                  show Lib.IsBuilder _ _ _ _ _ _
                  have e1 : Pl.sep k = [44] := by unfold Pl.sep; rw [if_pos hk0]
                  rw [e1, ← cells_snoc]; exact hB3
                clear hB3
                go_wp2
                go_meet
                exact ⟨HB3.out, hb2.trans hb3⟩
              · have hL1 : L = 0 := by omega
                go_wp2
                go_meet
                have e1 : Pl.sep k = [] := by unfold Pl.sep; rw [if_neg hk0]
                rw [e1, List.append_nil]
                exact ⟨HB2.out, hb2⟩
            case rest =>
              obtain ⟨hB3, hb3⟩ := hcut
              have HB3 : Hid (Lib.IsBuilder 33 5 w.heap.size w.heap.size (Lib.byteCells (Pl.outTo zs k ++ Pl.sep k)) wc) := hB3
              have hsz3 := hb3.size
              clear hB3 hb2 HB2 HL hL0 hLn hsz2
              have hl3 : (Lib.byteCells (Pl.outTo zs k ++ Pl.sep k)).length ≤ 22 * k + 1 := by
                have h1 := Pl.outTo_length HF.out k
                have h2 := Pl.sep_length k
                rw [Lib.byteCells_length, List.length_append]; omega
              have Hl3 := (show Hid _ from hl3)
              clear hl3
              obtain ⟨zk, hzk⟩ : ∃ zk, zk = zs.getD k 0 := ⟨_, rfl⟩
              have HZK := (show Hid _ from hzk)
              have hck : wc.cell? ⟨b, off + k, none⟩ = some (.int .i64 zk) := by rw [hzk]; exact (hb3.cell (p := ⟨b, off + k, none⟩) hbB).trans (HC.out k hlt)
              have HK0 : Hid (-9223372036854775808 ≤ zk) := by rw [hzk]; exact (HF.out k).1
              have HK1 : Hid (zk ≤ 9223372036854775807) := by rw [hzk]; exact (HF.out k).2
              clear hzk
              go_wp2_with fail
              refine (itoa_any _ HK0.out HK1.out _ (HT.out.below hb3)).mono ?_
              rintro e w4 ⟨rfl, hb4⟩
              have hsz4 := hb4.size
              have HB4 := (show Hid _ from builder_below HB3.out hb4)
              have hb4' := hb3.trans (hb4.mono hsz3)
              have hil : (⟨(Lib.itoa zk).toArray⟩ : ByteArray).size ≤ 21 := by rw [size_str]; exact Lib.itoa_length_le zk HK0.out HK1.out
              have HIL := (show Hid _ from hil)
              clear hil hb4 HB3 hb3 hck
              go_wp2_with fail
              refine (writeString_any _ _ _ _ _ HB4.out (by have := Hl3.out; omega) (by have := HIL.out; omega) (by omega)).mono ?_
              rintro e w5 ⟨rfl, hB5, hb5⟩
              have HB5 : Hid (Lib.IsBuilder 33 5 w.heap.size w.heap.size (Lib.byteCells (Pl.outTo zs k ++ (Pl.sep k ++ Lib.itoa (zs.getD k 0)))) w5) := by
                show Lib.IsBuilder _ _ _ _ _ _
                rw [← List.append_assoc, ← cells_app, ← HZK.out]; exact hB5
              have hb5' := hb4'.trans hb5
              have hsz5 := hb5'.size
              have hl5 : (Lib.byteCells (Pl.outTo zs k ++ (Pl.sep k ++ Lib.itoa (zs.getD k 0)))).length ≤ 22 * k + 22 := by
                have h1 := Pl.outTo_length HF.out k
                have h2 := Pl.sep_length k
                have h3 := Lib.itoa_length_le _ (HF.out k).1 (HF.out k).2
                rw [Lib.byteCells_length, List.length_append, List.length_append]; omega
              have Hl5 := (show Hid _ from hl5)
              clear hl5 hB5 hb5 HB4 hb4' HIL Hl3
              have HO := (show Hid _ from Pl.outTo_run HS.out hkl HR.out (by rw [HZ.out]; exact hln) HE.out)
              by_cases hgt : k < last
              · obtain ⟨zl, hzl⟩ : ∃ zl, zl = zs.getD last 0 := ⟨_, rfl⟩
                have HZL := (show Hid _ from hzl)
                have HL0 : Hid (-9223372036854775808 ≤ zl) := by rw [hzl]; exact (HF.out last).1
                have HL1 : Hid (zl ≤ 9223372036854775807) := by rw [hzl]; exact (HF.out last).2
                clear hzl
                go_wp2_with fail
                refine (writeByte_any _ _ _ 45 _ HB5.out (by have := Hl5.out; omega) hsz5).mono ?_
                rintro e w6 ⟨rfl, hB6, hb6⟩
                have HB6 : Hid (Lib.IsBuilder 33 5 w.heap.size w.heap.size (Lib.byteCells (Pl.outTo zs k ++ (Pl.sep k ++ Lib.itoa (zs.getD k 0)) ++ [45])) w6) := by
                  show Lib.IsBuilder _ _ _ _ _ _
                  rw [← cells_snoc]; exact hB6
                have hb6' := hb5'.trans hb6
                have hsz6 := hb6'.size
                have Hl6 : Hid ((Lib.byteCells (Pl.outTo zs k ++ (Pl.sep k ++ Lib.itoa (zs.getD k 0)) ++ [45])).length ≤ 22 * k + 23) := by
                  have := Hl5.out
                  show _ ≤ _
                  rw [Lib.byteCells_length] at this ⊢
                  rw [List.length_append]
                  simp only [List.length_singleton]
                  omega
                have hcl : w6.cell? ⟨b, off + last, none⟩ = some (.int .i64 zl) := by rw [HZL.out]; exact (hb6'.cell (p := ⟨b, off + last, none⟩) hbB).trans (HC.out last hln)
                clear hB6 hb6 HB5 hb5' Hl5
                go_wp2_with fail
                refine (itoa_any _ HL0.out HL1.out _ (HT.out.below hb6')).mono ?_
                rintro e w7 ⟨rfl, hb7⟩
                have HB7 := (show Hid _ from builder_below HB6.out hb7)
                have hb7' := hb6'.trans (hb7.mono hsz6)
                have hsz7 := hb7'.size
                have hil : (⟨(Lib.itoa zl).toArray⟩ : ByteArray).size ≤ 21 := by rw [size_str]; exact Lib.itoa_length_le zl HL0.out HL1.out
                have HIL := (show Hid _ from hil)
                clear hil hb7 HB6 hb6' hcl
                go_wp2_with fail
                refine (writeString_any _ _ _ _ _ HB7.out (by have := Hl6.out; omega) (by have := HIL.out; omega) (by omega)).mono ?_
                rintro e w8 ⟨rfl, hB8, hb8⟩
                have HB8 : Hid (Lib.IsBuilder 33 5 w.heap.size w.heap.size (Lib.byteCells (Pl.outTo zs (last + 1))) w8) := by
                  show Lib.IsBuilder _ _ _ _ _ _
                  have h1 := HO.out
                  rw [if_pos hgt] at h1
                  rw [h1, ← HZL.out, show (45 :: Lib.itoa zl : List UInt8) = [45] ++ Lib.itoa zl from rfl, ← List.append_assoc, ← cells_app]
                  exact hB8
                have hb8' := hb7'.trans hb8
                clear hB8 hb8 HB7 hb7' HO
                go_wp2
                go_roundw
                case rel => exact ⟨last + 1, by omega, by go_num, fun h => start_of_end (by rw [HZ.out]; exact h) HE.out, HB8.out, hb8'⟩
                case measure => simp [intOf]; omega
              · have HB8 : Hid (Lib.IsBuilder 33 5 w.heap.size w.heap.size (Lib.byteCells (Pl.outTo zs (last + 1))) w5) := by
                  show Lib.IsBuilder _ _ _ _ _ _
                  have h1 := HO.out
                  rw [if_neg hgt] at h1
                  rw [h1]
                  exact HB5.out
                clear HO HB5
                go_wp2
                go_roundw
                case rel => exact ⟨last + 1, by omega, by go_num, fun h => start_of_end (by rw [HZ.out]; exact h) HE.out, HB8.out, hb5'⟩
                case measure => simp [intOf]; omega
          · have HE : Hid (Pl.isEnd zs last = false) := by show Pl.isEnd zs last = false; have := HG.out; simpa using this
            have hl1 : last + 1 < n := by have := last_of_end (by rw [HZ.out]; exact hln) HE.out; rw [HZ.out] at this; exact this
            go_wp2
            go_roundw
            case rel => exact ⟨last + 1, by omega, hl1, by go_num, run_next HR.out HE.out, HB2.out, hb2⟩
            case measure => simp [intOf]; omega
    · obtain rfl : k = n := by omega
      have HQ : Hid (Pl.out zs = Pl.outTo zs k) := by show Pl.out zs = _; unfold Pl.out; rw [HZ.out]
      have hsz := hb.size
      clear hst
      go_wp2_with fail
      refine (Tryd.Builder_String_any _ _ _ _ HB.out hsz).mono ?_
      rintro e w2 ⟨rfl, hb2⟩
      go_wp2
      go_ret
      exact ⟨ret_str HQ.out.symm, hb.trans hb2⟩

set_option maxHeartbeats 1000000 in
set_option maxRecDepth 10000 in
theorem formatList_none (ao : Option Addr) (cap : Nat) (w : World) :
    Calls Tryd.prog 9 #[.slice ao 0 cap] w fun e w' => e = .returned (.string ⟨([] : List UInt8).toArray⟩) ∧ Below w.heap.size w w' := by
  have HB : Hid (Lib.IsBuilder 33 5 w.heap.size w.heap.size (Lib.byteCells []) (w.alloc (.cells #[.pointer none, .slice none 0 0] 33))) := Lib.fresh_isBuilder 33 5 w
  go_enter Tryd.func9, Tryd.ntmps9
  go_wp2
  refine wp_loop_rounds 1 ?_
  rw [rounds_succ]
  go_wp2_with fail
  refine (Tryd.Builder_String_any _ _ [] _ HB.out (by simp)).mono ?_
  rintro e w2 ⟨rfl, hb2⟩
  go_wp2
  go_ret
  exact ⟨rfl, ((Below.refl _ _).alloc (Nat.le_refl _) _).trans hb2⟩
end Go.Proofs.Qxb6620856aDoor
