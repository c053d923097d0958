/-
  zzWordAt, zzScalarAt.
-/
import Derived.Test.Qxb6621665aScalar
import Derived.Deep.QuietTactic
import Derived.BigQuiet
namespace Go.Proofs.Qxb6621665a
open Go.ChangeShapes Go.WideShapes Go.ChangeAt Go.RowKit

theorem below_quiet {B : Nat} {w wr : World} (h : Below B w wr) (n : Nat) : Below B w (wr.drewN n) := ⟨h.os, h.tape, h.output, h.size, h.block⟩

/-- The first j bytes of the word stand. -/
def Upto (zs : List Int) (i j : Nat) (ws : List UInt8) : Prop := ∀ t (h : t < ws.length), t < j → zs.getD (i + t) 0 = (ws[t].toNat : Int)
theorem upto_all {zs : List Int} {i : Nat} {ws : List UInt8} (hl : i + ws.length ≤ zs.length) (h : Upto zs i ws.length ws) : wordAt zs i ws = true := by
  unfold wordAt
  refine decide_eq_true (List.ext_getElem (by rw [List.length_take, List.length_drop, nums_length]; omega) fun t h1 h2 => ?_)
  have ht : t < ws.length := by rw [nums_length] at h2; exact h2
  have := h t ht ht
  have e : zs.getD (i + t) 0 = zs[i + t]'(by omega) := by simp [List.getD, List.getElem?_eq_getElem (show i + t < zs.length by omega)]
  rw [e] at this
  simp [nums, this]
theorem word_miss {zs : List Int} {i t : Nat} {ws : List UInt8} (hl : i + ws.length ≤ zs.length) (ht : t < ws.length) (h : zs.getD (i + t) 0 ≠ (ws[t].toNat : Int)) : wordAt zs i ws = false := by
  unfold wordAt
  refine decide_eq_false fun e => h ?_
  have e1 : ((zs.drop i).take ws.length)[t]? = (nums ws)[t]? := by rw [e]
  have e2 : (nums ws)[t]? = some (ws[t].toNat : Int) := by simp [nums, ht]
  have e3 : ((zs.drop i).take ws.length)[t]? = some (zs[i + t]'(by omega)) := by
    rw [List.getElem?_take, if_pos ht, List.getElem?_drop, List.getElem?_eq_getElem (by omega)]
  rw [e2, e3] at e1
  simp [List.getD, List.getElem?_eq_getElem (show i + t < zs.length by omega)]
  exact Option.some.inj e1

theorem byte_ne {ws : List UInt8} {j : Nat} {c : Int} (_hj : j < ws.length) {_hj' : j < (⟨ws.toArray⟩ : ByteArray).size} (h : (c != ((⟨ws.toArray⟩ : ByteArray)[j].toNat : Int)) = true) : c ≠ (ws[j].toNat : Int) := by
  have e : (⟨ws.toArray⟩ : ByteArray)[j] = ws[j] := rfl
  rw [e] at h
  simpa using h
theorem byte_eq {ws : List UInt8} {j : Nat} {c : Int} (_hj : j < ws.length) {_hj' : j < (⟨ws.toArray⟩ : ByteArray).size} (h : (c != ((⟨ws.toArray⟩ : ByteArray)[j].toNat : Int)) = false) : c = (ws[j].toNat : Int) := by
  have e : (⟨ws.toArray⟩ : ByteArray)[j] = ws[j] := rfl
  rw [e] at h
  simpa using h
theorem upto_succ {zs : List Int} {i j : Nat} {ws : List UInt8} (h : Upto zs i j ws) (hj : j < ws.length) (e : zs.getD (i + j) 0 = (ws[j].toNat : Int)) : Upto zs i (j + 1) ws := by
  intro t ht htj
  by_cases h1 : t < j
  · exact h t ht h1
  · obtain rfl : t = j := by omega
    exact e

set_option maxHeartbeats 1000000 in
set_option maxRecDepth 10000 in
theorem wordAt_any (b off n cap : Nat) (zs : List Int) (i : Nat) (ws : List UInt8) (w : World) (h : Text b off n zs w) (hi : i ≤ n) (hw0 : 0 < ws.length) (hw1 : ws.length ≤ 100) :
    Calls Try.prog 18 #[.slice (some ⟨b, off, none⟩) n cap, .int .i64 i, .string ⟨ws.toArray⟩] w fun e w' => e = .returned (.bool (wordAt zs i ws)) ∧ w'.heap = w.heap ∧ Below w.heap.size w w' := by
  have HT : Hid (Text b off n zs w) := h
  have hsm := h.small
  clear h
  by_cases hl : i + ws.length ≤ n
  · go_enter Try.func18, Try.ntmps18
    go_wp2
    go_loopw [7] (fun t wr => ∃ j : Nat, j ≤ ws.length ∧ t = .int .i64 j ∧ Upto zs i j ws ∧ wr.heap = w.heap ∧ Below w.heap.size w wr) (fun t _ => ws.length - (intOf t).toNat)
    case atStart => exact ⟨0, Nat.zero_le _, rfl, fun t _ h => by omega, rfl, Below.refl _ _⟩
    case round =>
      obtain ⟨j, hj, rfl, hu, hh, hb⟩ := hrel
      have HU : Hid (Upto zs i j ws) := hu
      have HH : Hid (wr.heap = w.heap) := hh
      clear hu hh
      by_cases hlt : j < ws.length
      · obtain ⟨c, hcz⟩ : ∃ c, c = zs.getD (i + j) 0 := ⟨_, rfl⟩
        have hck : wr.cell? ⟨b, off + (i + j), none⟩ = some (.int .u8 c) := by rw [hcz]; exact (HT.out.heap HH.out).cell (i + j) (by omega)
        have HCZ := (show Hid _ from hcz)
        clear hcz
        have hq1 : (0 : Int) ≤ (i : Int) + (j : Int) := by omega
        have hq2 : (i : Int) + (j : Int) < (n : Int) := by omega
        go_wp2
        go_quiet (fail)
        go_wp2
        · have HM : Hid (wordAt zs i ws = false) := word_miss (by rw [HT.out.len]; exact hl) hlt (by rw [← HCZ.out]; exact byte_ne hlt (by assumption))
          go_ret
          exact ⟨ret_b (by rw [HM.out]), HH.out, below_quiet hb _⟩
        · have HE : Hid (c = (ws[j].toNat : Int)) := byte_eq hlt (by assumption)
          go_roundw
          case rel => exact ⟨j + 1, by omega, by go_num, upto_succ HU.out hlt (by rw [← HCZ.out]; exact HE.out), HH.out, below_quiet hb _⟩
          case measure => simp [intOf]; omega
      · obtain rfl : j = ws.length := by omega
        have HM : Hid (wordAt zs i ws = true) := upto_all (by rw [HT.out.len]; exact hl) HU.out
        go_wp2
        go_ret
        exact ⟨ret_b (by rw [HM.out]), HH.out, hb⟩
  · go_enter Try.func18, Try.ntmps18
    go_wp2
    go_ret
    exact ⟨ret_b (by rw [word_short (by rw [HT.out.len]; exact hl) hw0]), rfl, Below.refl _ _⟩

abbrev wTrue : List UInt8 := [116, 114, 117, 101]
abbrev wFalse : List UInt8 := [102, 97, 108, 115, 101]
abbrev wNull : List UInt8 := [110, 117, 108, 108]

/-- Where the scalar at i ends, and its kind. -/
def scalAt (zs : List Int) (i : Nat) : Nat × Int :=
  if wordAt zs i wTrue = true then (i + 4, 2) else if wordAt zs i wFalse = true then (i + 5, 2) else if wordAt zs i wNull = true then (i + 4, 1)
  else if 0 < wantOf i (Pl.run 0 (zs.drop i)) then (wantOf i (Pl.run 0 (zs.drop i)), 3) else (0, 0)

theorem ret_pair {a b c d : Int} (h1 : a = b) (h2 : c = d) : Ending.returned (.tuple #[.int .i64 a, .int .u8 c]) = .returned (.tuple #[.int .i64 b, .int .u8 d]) := by rw [h1, h2]

set_option maxHeartbeats 1000000 in
set_option maxRecDepth 10000 in
theorem scalarAt_any (b off n cap : Nat) (zs : List Int) (i : Nat) (w : World) (h : Text b off n zs w) (hi : i < n) :
    Calls Try.prog 12 #[.slice (some ⟨b, off, none⟩) n cap, .int .i64 i] w fun e w' => e = .returned (.tuple #[.int .i64 ((scalAt zs i).1 : Nat), .int .u8 (scalAt zs i).2]) ∧ w'.heap = w.heap ∧ Below w.heap.size w w' := by
  have HT : Hid (Text b off n zs w) := h
  have hsm := h.small
  clear h
  obtain ⟨A, hA⟩ : ∃ A, A = wordAt zs i wTrue := ⟨_, rfl⟩
  obtain ⟨B, hB⟩ : ∃ B, B = wordAt zs i wFalse := ⟨_, rfl⟩
  obtain ⟨C, hC⟩ : ∃ C, C = wordAt zs i wNull := ⟨_, rfl⟩
  obtain ⟨W, hW⟩ : ∃ W, W = wantOf i (Pl.run 0 (zs.drop i)) := ⟨_, rfl⟩
  have HS : Hid (scalAt zs i = if A = true then (i + 4, 2) else if B = true then (i + 5, 2) else if C = true then (i + 4, 1) else if 0 < W then (W, 3) else (0, 0)) := by
    show _ = _; rw [hA, hB, hC, hW]; rfl
  have HA := (show Hid _ from hA)
  have HB := (show Hid _ from hB)
  have HC := (show Hid _ from hC)
  have HW := (show Hid _ from hW)
  clear hA hB hC hW
  go_enter Try.func12, Try.ntmps12
  go_wp2_with fail
  refine (wordAt_any b off n cap zs i wTrue _ HT.out (by omega) (by decide) (by decide)).mono ?_
  rintro e w1 ⟨rfl, hh1, hb1⟩
  rw [← HA.out]
  have HT1 : Hid (Text b off n zs w1) := HT.out.heap hh1
  have HH1 : Hid (w1.heap = w.heap) := hh1
  clear hh1
  cases A
  · go_wp2_with fail
    refine (wordAt_any b off n cap zs i wFalse _ HT1.out (by omega) (by decide) (by decide)).mono ?_
    rintro e w2 ⟨rfl, hh2, hb2⟩
    rw [← HB.out]
    have HT2 : Hid (Text b off n zs w2) := HT1.out.heap hh2
    have HH2 : Hid (w2.heap = w.heap) := hh2.trans HH1.out
    have hb2' : Below w.heap.size w w2 := hb1.trans (hb2.mono (by rw [HH1.out]; exact Nat.le_refl _))
    clear hh2 hb2
    cases B
    · go_wp2_with fail
      refine (wordAt_any b off n cap zs i wNull _ HT2.out (by omega) (by decide) (by decide)).mono ?_
      rintro e w3 ⟨rfl, hh3, hb3⟩
      rw [← HC.out]
      have HT3 : Hid (Text b off n zs w3) := HT2.out.heap hh3
      have HH3 : Hid (w3.heap = w.heap) := hh3.trans HH2.out
      have hb3' : Below w.heap.size w w3 := hb2'.trans (hb3.mono (by rw [HH2.out]; exact Nat.le_refl _))
      clear hh3 hb3
      cases C
      · go_wp2_with fail
        refine (walkN_any b off n cap zs i i _ HT3.out (by omega)).mono ?_
        rintro e w4 ⟨rfl, hw4⟩
        rw [hw4, ← HW.out]
        clear hw4 w4
        by_cases h0 : 0 < W
        · have HQ : Hid (scalAt zs i = (W, 3)) := by show _ = _; have := HS.out; simpa [h0] using this
          go_wp2
          go_ret2
          exact ⟨ret_pair (by rw [HQ.out]) (by rw [HQ.out]), HH3.out, hb3'⟩
        · have HQ : Hid (scalAt zs i = (0, 0)) := by show _ = _; have := HS.out; simpa [h0] using this
          go_wp2
          go_ret2
          exact ⟨ret_pair (by rw [HQ.out]; rfl) (by rw [HQ.out]), HH3.out, hb3'⟩
      · have HQ : Hid (scalAt zs i = (i + 4, 1)) := by show _ = _; have := HS.out; simpa using this
        go_wp2
        go_ret2
        exact ⟨ret_pair (by rw [HQ.out]; go_num) (by rw [HQ.out]), HH3.out, hb3'⟩
    · have HQ : Hid (scalAt zs i = (i + 5, 2)) := by show _ = _; have := HS.out; simpa using this
      go_wp2
      go_ret2
      exact ⟨ret_pair (by rw [HQ.out]; go_num) (by rw [HQ.out]), HH2.out, hb2'⟩
  · have HQ : Hid (scalAt zs i = (i + 4, 2)) := by show _ = _; have := HS.out; simpa using this
    go_wp2
    go_ret2
    exact ⟨ret_pair (by rw [HQ.out]; go_num) (by rw [HQ.out]), HH1.out, hb1⟩
end Go.Proofs.Qxb6621665a
