import Derived.Test.Qxb6620856aDoorItoa
import Derived.Lib.AppendStr
import Derived.Shelf.Strings.Builder1
import Derived.Deep.QuietTactic
import Derived.BigQuiet
import Derived.Laws.OwnMore
import Derived.Deep.DeepCutAuto
namespace Go.Proofs.Qxb6620856aDoor
open Go.ChangeShapes Go.WideShapes Go.ChangeAt Go.RowKit

theorem Tryd.info5 : (Tryd.prog.info? 5).map (fun i => (i.zero, i.size, i.bytes)) = some (some (.int .u8 0), 1, 1) := by kernel_rfl

theorem owns_below {base e size n : Nat} {v : Value} {xs : List Value} {wr w1 : World} (h : wr.ownsRow base e size v n xs) (hb : Below wr.heap.size wr w1) : w1.ownsRow base e size v n xs :=
  h.kept (row := none) ⟨hb.os, hb.tape, hb.output, hb.size, fun k hk _ => hb.block k hk⟩ (Decidable.em _)

theorem owns_heap {base e size n : Nat} {v : Value} {xs : List Value} {wr w1 : World} (h : wr.ownsRow base e size v n xs) (hb : w1.heap = wr.heap) : w1.ownsRow base e size v n xs := by
  unfold World.ownsRow at h ⊢; rw [hb]; exact h
theorem cell_heap {wr w1 : World} {a : Addr} {v : Value} (h : wr.cell? a = some v) (hb : w1.heap = wr.heap) : w1.cell? a = some v := by
  unfold World.cell? at h ⊢; rw [hb]; exact h
theorem below_quiet {B : Nat} {w wr : World} (h : Below B w wr) (n : Nat) : Below B w (wr.drewN n) := ⟨h.os, h.tape, h.output, h.size, h.block⟩
theorem start_ne {zs : List Int} {k : Nat} {zk zp : Int} (hk : k ≠ 0) (h1 : zk = zs.getD k 0) (h2 : zp = zs.getD (k - 1) 0) : (zk != wrap64 (zp + 1)) = Pl.isStart zs k := by
  by_cases h : zk = wrap64 (zp + 1)
  · rw [Pl.isStart_false hk (by rw [← h1, ← h2]; exact h)]; simpa using h
  · rw [Pl.isStart_of_ne (by rw [← h1, ← h2]; exact h)]; simpa using h
theorem end_ne {zs : List Int} {k : Nat} {zk zn : Int} (hk : k + 1 ≠ zs.length) (h1 : zk = zs.getD k 0) (h2 : zn = zs.getD (k + 1) 0) : (zn != wrap64 (zk + 1)) = Pl.isEnd zs k := by
  by_cases h : zn = wrap64 (zk + 1)
  · rw [Pl.isEnd_false hk (by rw [← h1, ← h2]; exact h)]; simpa using h
  · rw [Pl.isEnd_of_ne (by rw [← h1, ← h2]; exact h)]; simpa using h

/-- What stands ahead of the number. -/
def pre (S : Bool) (k : Nat) : List UInt8 := if S = true then Pl.sep k else [45]
theorem pre_length (S : Bool) (k : Nat) : (pre S k).length ≤ 1 := by
  unfold pre; split
  · exact Pl.sep_length k
  · simp
theorem piece_pre {zs : List Int} {k : Nat} {S E : Bool} (hS : S = Pl.isStart zs k) (hE : E = Pl.isEnd zs k) (h : S = true ∨ E = true) : Pl.piece zs k = pre S k ++ Lib.itoa (zs.getD k 0) := by
  cases hs : S
  · rw [hs] at hS
    rw [Pl.piece_end hS.symm (by rw [← hE]; rcases h with h | h; · rw [hs] at h; exact absurd h Bool.false_ne_true
                                 exact h)]
    rfl
  · rw [hs] at hS
    rw [Pl.piece_start hS.symm]
    rfl
theorem strCells_byteCells (l : List UInt8) : Lib.strCells ⟨l.toArray⟩ = Lib.byteCells l := by
  simp [Lib.strCells, Lib.byteCells]
theorem snoc_cells (l : List UInt8) (c : UInt8) : Lib.byteCells l ++ [.int .u8 (c.toNat : Int)] = Lib.byteCells (l ++ [c]) := by simp [Lib.byteCells]
theorem one_new (w : World) (v : Value) (t : TypeId) : ∀ (j : Nat) (u : Value), [v][j]? = some u → (w.alloc (.cells #[v] t)).cell? ((⟨w.heap.size, 0, none⟩ : Addr).add j) = some u := by
  intro j u hj
  match j, hj with
  | 0, hj => simp at hj; subst hj; simp [Addr.add]
theorem one_cell (c : Int) : ∀ u ∈ [Value.int .u8 c], u.oneCell' = true := by intro u hu; simp at hu; subst hu; rfl
/-- Behind 'append(out, c)'. -/
theorem own_snoc {B : Nat} {v : Value} {l : List UInt8} (c : UInt8) {w : World} (h : w.ownsRow B 5 1 v (l.length + 1) (Lib.byteCells l ++ [.int .u8 (c.toNat : Int)])) : w.ownsRow B 5 1 v (l ++ [c]).length (Lib.byteCells (l ++ [c])) := by
  rw [← snoc_cells]; simpa using h
/-- Behind 'append(out, s...)'. -/
theorem own_more {B N : Nat} {v : Value} {l m r : List UInt8} {w : World} (h : w.ownsRow B 5 1 v N (Lib.byteCells l ++ Lib.strCells ⟨m.toArray⟩)) (e : r = l ++ m) : w.ownsRow B 5 1 v r.length (Lib.byteCells r) := by
  rw [strCells_byteCells] at h
  have e2 : Lib.byteCells (l ++ m) = Lib.byteCells l ++ Lib.byteCells m := by simp [Lib.byteCells]
  rw [← e2, ← e] at h
  have e3 := h.1
  rw [Lib.byteCells_length, Nat.mul_one] at e3
  rw [e3]
  exact h
/-- What an owned row of bytes reads as. -/
theorem own_slice {B : Nat} {v : Value} {l : List UInt8} {w : World} (h : w.ownsRow B 5 1 v l.length (Lib.byteCells l)) (hl : l ≠ []) : ∃ x c, v = .slice (some x) l.length c ∧ ∀ j (hj : j < l.length), w.cell? (x.add j) = some (.int .u8 (l[j].toNat : Int)) := by
  rcases h.2 with ⟨_, h0⟩ | ⟨g, cap, cur, rfl, hb, hg, hle, hm, hs, ht⟩
  · exact absurd (List.length_eq_zero_iff.1 h0) hl
  · refine ⟨_, _, rfl, fun j hj => ?_⟩
    have h1 : (Lib.byteCells l)[j]? = some (.int .u8 (l[j].toNat : Int)) := by simp [Lib.byteCells, hj]
    rw [← ht, List.getElem?_take, if_pos (by omega)] at h1
    simp only [Array.getElem?_toList] at h1
    rw [Lib.add_plain, Nat.zero_add]
    simp [World.cell?, hg, h1]
theorem below_own {B n : Nat} {w wc w1 w2 : World} {v : Value} {xs : List Value} (hb2 : Below B w wc) (hB : B ≤ w.heap.size) (hb3 : Below wc.heap.size wc w1) (hown : wc.ownsRow B 5 1 v n xs) (hg : w1.grownBy w2 v.ownBlock) : Below B w w2 := by
  have h1 := hb2.size
  have h2 := hb3.size
  exact (hb2.trans (hb3.mono (by omega))).grown hg (by omega) (fun k hk => (hown.lt k hk).1)

set_option maxHeartbeats 1000000 in
set_option maxRecDepth 10000 in
theorem runModel_some (b off n cap : Nat) (zs : List Int) (w : World) (hz : zs.length = n) (hn0 : 0 < n) (hn : n ≤ 131072) (hfit : Pl.Fit zs) (hbB : b < w.heap.size)
    (hc : ∀ j, j < n → w.cell? ⟨b, off + j, none⟩ = some (.int .i64 (zs.getD j 0))) :
    Calls Tryd.prog 10 #[.slice (some ⟨b, off, none⟩) n cap] w fun e w' => e = .returned (.string ⟨(Pl.out zs).toArray⟩) ∧ Below w.heap.size w w' := by
  obtain ⟨i0, hi, hz0, hz1, hz2⟩ := info_parts Tryd.info5
  have HZ : Hid (zs.length = n) := hz
  clear hz
  go_enter Tryd.func10, Tryd.ntmps10
  go_wp2
  go_loopw [4, 5] (fun v i wr => ∃ k : Nat, k ≤ n ∧ i = .int .i64 k ∧ wr.ownsRow w.heap.size 5 1 v (Pl.outTo zs k).length (Lib.byteCells (Pl.outTo zs k)) ∧ Below w.heap.size w wr)
    (fun _ i _ => n - (intOf i).toNat)
  case atStart => exact ⟨0, Nat.zero_le _, rfl, World.ownsRow_nil _ _ _ _, Below.refl _ _⟩
  case round =>
    obtain ⟨k, hk, rfl, hown, hb⟩ := hrel
    have HF := (show Hid _ from hfit)
    clear hfit
    by_cases hlt : k < n
    · obtain ⟨zk, hzk⟩ : ∃ zk, zk = zs.getD k 0 := ⟨_, rfl⟩
      have hck : wr.cell? ⟨b, off + k, none⟩ = some (.int .i64 zk) := by rw [hzk]; exact (hb.cell (p := ⟨b, off + k, none⟩) hbB).trans (hc k hlt)
      have HZK := (show Hid _ from hzk)
      clear hzk
      have hb3 : (k : Int) < (n : Int) := by omega
      obtain ⟨S, hS⟩ : ∃ S, S = Pl.isStart zs k := ⟨_, rfl⟩
      have HS := (show Hid _ from hS)
      clear hS
      obtain ⟨E, hE⟩ : ∃ E, E = Pl.isEnd zs k := ⟨_, rfl⟩
      have HE := (show Hid _ from hE)
      clear hE
      have HC := (show Hid _ from hc)
      clear hc
      have HO : Hid (wr.ownsRow w.heap.size 5 1 u4 (Pl.outTo zs k).length (Lib.byteCells (Pl.outTo zs k))) := hown
      clear hown
      go_wp2
      go_cut [6] (fun s wx => s = .bool S ∧ wx.heap = wr.heap ∧ Below w.heap.size w wx)
      case first =>
        by_cases hk0 : k = 0
        · have hk0' : ((k : Int) == 0) = true := beq_iff_eq.2 (by omega)
          go_quiet (fail)
          go_wp2
          go_meet
          exact ⟨by rw [HS.out, hk0, Pl.isStart_zero], rfl, below_quiet hb _⟩
        · have hk0' : ((k : Int) == 0) = false := beq_eq_false_iff_ne.2 (by omega)
          obtain ⟨zp, hzp⟩ : ∃ zp, zp = zs.getD (k - 1) 0 := ⟨_, rfl⟩
          have hcp : wr.cell? ⟨b, off + (k - 1), none⟩ = some (.int .i64 zp) := by rw [hzp]; exact (hb.cell (p := ⟨b, off + (k - 1), none⟩) hbB).trans (HC.out (k - 1) (by omega))
          have HZP := (show Hid _ from hzp)
          clear hzp
          have hb1 : (0 : Int) ≤ (k : Int) - 1 := by omega
          have hb2 : (k : Int) - 1 < (n : Int) := by omega
          go_quiet (fail)
          go_wp2
          go_meet
          exact ⟨by rw [HS.out, start_ne hk0 HZK.out HZP.out], rfl, below_quiet hb _⟩
      case rest =>
        obtain ⟨rfl, hheap, hb'⟩ := hcut
        have HO1 : Hid (wc.ownsRow w.heap.size 5 1 u4 (Pl.outTo zs k).length (Lib.byteCells (Pl.outTo zs k))) := owns_heap HO.out hheap
        have hck1 := cell_heap hck hheap
        clear hck hb HO hheap
        go_wp2
        go_cut [7] (fun s wx => s = .bool E ∧ wx.heap = wc.heap ∧ Below w.heap.size w wx)
        case first =>
          by_cases hl : k + 1 = n
          · have hl' : ((k : Int) == (n : Int) - 1) = true := beq_iff_eq.2 (by omega)
            have HL := (show Hid _ from hl)
            clear hl
            go_quiet (fail)
            go_wp2
            go_meet
            exact ⟨by rw [HE.out, Pl.isEnd_last (by rw [HZ.out]; exact HL.out)], rfl, below_quiet hb' _⟩
          · have hl' : ((k : Int) == (n : Int) - 1) = false := beq_eq_false_iff_ne.2 (by omega)
            obtain ⟨zn, hzn⟩ : ∃ zn, zn = zs.getD (k + 1) 0 := ⟨_, rfl⟩
            have hcn : wc.cell? ⟨b, off + (k + 1), none⟩ = some (.int .i64 zn) := by rw [hzn]; exact (hb'.cell (p := ⟨b, off + (k + 1), none⟩) hbB).trans (HC.out (k + 1) (by omega))
            have HZN := (show Hid _ from hzn)
            clear hzn
            have hb1 : (0 : Int) ≤ (k : Int) + 1 := by omega
            have hb2 : (k : Int) + 1 < (n : Int) := by omega
            go_quiet (fail)
            go_wp2
            go_meet
            exact ⟨by rw [HE.out, end_ne (by rw [HZ.out]; exact hl) HZK.out HZN.out], rfl, below_quiet hb' _⟩
        case rest =>
          obtain ⟨rfl, hheap, hb⟩ := hcut
          have HO : Hid (wc.ownsRow w.heap.size 5 1 u4 (Pl.outTo zs k).length (Lib.byteCells (Pl.outTo zs k))) := owns_heap HO1.out hheap
          have hck := cell_heap hck1 hheap
          clear hck1 hb' HO1 hheap
          by_cases hmid : S = false ∧ E = false
          · obtain ⟨rfl, rfl⟩ := hmid
            have HP : Hid (Pl.outTo zs (k + 1) = Pl.outTo zs k) := by
              show Pl.outTo zs k ++ Pl.piece zs k = Pl.outTo zs k
              rw [Pl.piece_mid HS.out.symm HE.out.symm, List.append_nil]
            go_wp2
            go_roundw
            case rel => exact ⟨k + 1, by omega, by go_num, by rw [HP.out]; exact HO.out, hb⟩
            case measure => simp [intOf]; omega
          · have hSE : S = true ∨ E = true := by cases S <;> cases E <;> simp_all
            have HP : Hid (Pl.piece zs k = pre S k ++ Lib.itoa (zs.getD k 0)) := piece_pre HS.out HE.out hSE
            have hlen := Pl.outTo_length HF.out k
            have hsz := hb.size
            clear hmid
            cases S
            · have hE1 : E = true := by rcases hSE with h | h; · exact absurd h Bool.false_ne_true
                                        exact h
              subst hE1
              clear hSE
              go_upto_if 53 with fail
              go_cut [4] (fun v wx => wx.ownsRow w.heap.size 5 1 v (Pl.outTo zs k ++ pre false k).length (Lib.byteCells (Pl.outTo zs k ++ pre false k)) ∧ Below w.heap.size w wx)
              case first =>
                go_wp2_with (at_builtin; refine wpList_append_own _ rfl _ _ 26 rfl w.heap.size 5 i0 (.int .u8 0) 1 1 Tryd.underlying26 hi hz0 hz1 hz2 rfl (by decide) _ _ _ rfl (HO.out.alloc _) ⟨wc.heap.size, 0, none⟩ 1 1 [.int .u8 45] rfl rfl (one_new _ _ _) (one_cell _) ?c3 ?c4 ?c5 ?_)
                case c3 => unfold maxLen; omega
                case c4 => omega
                case c5 => simp; omega
                intro v' w2 hown' hgrow _
                go_wp2
                go_meet
                exact ⟨own_snoc 45 hown', (hb.alloc hsz _).grown hgrow (by simp; omega) (fun k hk => (HO.out.lt k hk).1)⟩
              case rest =>
                obtain ⟨hown, hb2⟩ := hcut
                have HO2 : Hid (wc.ownsRow w.heap.size 5 1 u4 (Pl.outTo zs k ++ pre false k).length (Lib.byteCells (Pl.outTo zs k ++ pre false k))) := hown
                have hck2 : wc.cell? ⟨b, off + k, none⟩ = some (.int .i64 zk) := by rw [HZK.out]; exact (hb2.cell (p := ⟨b, off + k, none⟩) hbB).trans (HC.out k hlt)
                have hpl := pre_length false k
                have hsz2 := hb2.size
                clear hown hb hck HO
                go_wp2_with fail
                refine (zzItoa_any _ _ (by rw [HZK.out]; exact (HF.out k).1) (by rw [HZK.out]; exact (HF.out k).2)).mono ?_
                rintro e w1 ⟨rfl, hb3⟩
                have hil := Lib.itoa_length_le zk (by rw [HZK.out]; exact (HF.out k).1) (by rw [HZK.out]; exact (HF.out k).2)
                have hss : (⟨(Lib.itoa zk).toArray⟩ : ByteArray).size = (Lib.itoa zk).length := by simp [ByteArray.size]
                have HSS := (show Hid _ from hss)
                have hsz3 := hb3.size
                clear hss
                go_wp2_with (at_builtin; refine Lib.wpList_append_own_string _ rfl _ _ 26 9 rfl w.heap.size 5 i0 Tryd.underlying26 Tryd.underlying9 hi hz0 hz1 hz2 _ _ _ rfl (owns_below HO2.out hb3) _ rfl ?d1 ?d2 ?d3 ?_)
                case d1 => rw [HSS.out, List.length_append]; unfold maxLen; omega
                case d2 => rw [HSS.out, List.length_append]; omega
                case d3 => omega
                intro v' w2 hown' hgrow _
                go_wp2
                go_roundw
                case rel =>
                  refine ⟨k + 1, by omega, by go_num, own_more hown' ?_, below_own hb2 (Nat.le_refl _) hb3 HO2.out hgrow⟩
                  show Pl.outTo zs k ++ Pl.piece zs k = _
                  rw [HP.out, HZK.out, List.append_assoc]
                case measure => simp [intOf]; omega
            · clear hSE
              go_upto_if 53 with fail
              go_cut [4] (fun v wx => wx.ownsRow w.heap.size 5 1 v (Pl.outTo zs k ++ pre true k).length (Lib.byteCells (Pl.outTo zs k ++ pre true k)) ∧ Below w.heap.size w wx)
              case first =>
                by_cases hk0 : 0 < k
                · have HQ : Hid (pre true k = [44]) := by show pre true k = _; unfold pre Pl.sep; rw [if_pos rfl, if_pos hk0]
                  go_wp2_with (at_builtin; refine wpList_append_own _ rfl _ _ 26 rfl w.heap.size 5 i0 (.int .u8 0) 1 1 Tryd.underlying26 hi hz0 hz1 hz2 rfl (by decide) _ _ _ rfl (HO.out.alloc _) ⟨wc.heap.size, 0, none⟩ 1 1 [.int .u8 44] rfl rfl (one_new _ _ _) (one_cell _) ?c3 ?c4 ?c5 ?_)
                  case c3 => unfold maxLen; omega
                  case c4 => omega
                  case c5 => simp; omega
                  intro v' w2 hown' hgrow _
                  go_wp2
                  go_meet
                  rw [HQ.out]
                  exact ⟨own_snoc 44 hown', (hb.alloc hsz _).grown hgrow (by simp; omega) (fun k hk => (HO.out.lt k hk).1)⟩
                · have HQ : Hid (pre true k = []) := by show pre true k = _; unfold pre Pl.sep; rw [if_pos rfl, if_neg hk0]
                  go_wp2
                  go_meet
                  rw [HQ.out, List.append_nil]
                  exact ⟨HO.out, hb⟩
              case rest =>
                obtain ⟨hown, hb2⟩ := hcut
                have HO2 : Hid (wc.ownsRow w.heap.size 5 1 u4 (Pl.outTo zs k ++ pre true k).length (Lib.byteCells (Pl.outTo zs k ++ pre true k))) := hown
                have hck2 : wc.cell? ⟨b, off + k, none⟩ = some (.int .i64 zk) := by rw [HZK.out]; exact (hb2.cell (p := ⟨b, off + k, none⟩) hbB).trans (HC.out k hlt)
                have hpl := pre_length true k
                have hsz2 := hb2.size
                clear hown hb hck HO
                go_wp2_with fail
                refine (zzItoa_any _ _ (by rw [HZK.out]; exact (HF.out k).1) (by rw [HZK.out]; exact (HF.out k).2)).mono ?_
                rintro e w1 ⟨rfl, hb3⟩
                have hil := Lib.itoa_length_le zk (by rw [HZK.out]; exact (HF.out k).1) (by rw [HZK.out]; exact (HF.out k).2)
                have hss : (⟨(Lib.itoa zk).toArray⟩ : ByteArray).size = (Lib.itoa zk).length := by simp [ByteArray.size]
                have HSS := (show Hid _ from hss)
                have hsz3 := hb3.size
                clear hss
                go_wp2_with (at_builtin; refine Lib.wpList_append_own_string _ rfl _ _ 26 9 rfl w.heap.size 5 i0 Tryd.underlying26 Tryd.underlying9 hi hz0 hz1 hz2 _ _ _ rfl (owns_below HO2.out hb3) _ rfl ?d1 ?d2 ?d3 ?_)
                case d1 => rw [HSS.out, List.length_append]; unfold maxLen; omega
                case d2 => rw [HSS.out, List.length_append]; omega
                case d3 => omega
                intro v' w2 hown' hgrow _
                go_wp2
                go_roundw
                case rel =>
                  refine ⟨k + 1, by omega, by go_num, own_more hown' ?_, below_own hb2 (Nat.le_refl _) hb3 HO2.out hgrow⟩
                  show Pl.outTo zs k ++ Pl.piece zs k = _
                  rw [HP.out, HZK.out, List.append_assoc]
                case measure => simp [intOf]; omega
    · obtain rfl : k = n := by omega
      have HO : Hid (wr.ownsRow w.heap.size 5 1 u4 (Pl.outTo zs k).length (Lib.byteCells (Pl.outTo zs k))) := hown
      have HQ : Hid (Pl.out zs = Pl.outTo zs k) := by show Pl.out zs = _; unfold Pl.out; rw [HZ.out]
      obtain ⟨x, c, rfl, hx⟩ := own_slice HO.out (Pl.outTo_ne zs k hn0)
      have hconv := run_convert_bytes_back (P := Tryd.prog) wr 26 9 5 x c (Pl.outTo zs k) Tryd.underlying26 Tryd.underlying5 Tryd.underlying9 hx
      clear hx hown hc
      go_wp2
      go_ret
      exact ⟨ret_str HQ.out.symm, hb⟩
end Go.Proofs.Qxb6620856aDoor
