/-
  The copy that a law takes of its text first; slices of a text.
-/
import Derived.Test.Qxb6621665aNumber
import Derived.Test.Qxb6621665aWalk
import Derived.Laws.CopyOwn
import Derived.WalkSpells
import Derived.OpenShut
import Derived.ShutString
import Derived.ChangeOld
namespace Go.Proofs.Qxb6621665a
open Go.ChangeShapes Go.WideShapes Go.ChangeAt Go.RowKit

theorem own : ownKnob Try.prog.godebug = none := by kernel_rfl
theorem laidOut : laidOutB Try.prog = true := by kernel_rfl

/-- What a walk is told of a slice of integers that came in. -/
def IsRow (k : IntKind) (w : World) (a : Option Addr) (len cap : Nat) (zs : List Int) : Prop :=
  (a = none ∧ len = 0 ∧ cap = 0 ∧ zs = []) ∨
  ∃ x, a = some x ∧ len ≤ cap ∧ cap ≤ maxLen ∧ zs.length = cap ∧ (∀ i, i < zs.length → w.cell? (x.add i) = some (.int k (zs.getD i 0))) ∧ ∀ n ∈ zs, (Lit.int k n).wf = true

theorem Try.info5 : (Try.prog.info? 5).map (fun i => (i.zero, i.size, i.bytes)) = some (some (.int .u8 0), 1, 1) := by kernel_rfl
theorem Try.size5 : (Try.prog.info? 5).map (·.size) = some 1 := by kernel_rfl

theorem made_block {B n : Nat} {w : World} {xs : List Value} (h : w.ownsRow B 5 1 (.slice (some ⟨B, 0, none⟩) n n) n xs) : w.heap[B]? = some (.cells xs.toArray 5 (0, 0)) ∧ xs.length = n := by
  have hl := h.1
  rw [Nat.mul_one] at hl
  rcases h.2 with ⟨hv, _⟩ | ⟨g, cap, cur, hv, hb, hg, hle, hm, hs, ht⟩
  · cases hv
  · injection hv with e1 e2 e3
    injection e1 with e1
    injection e1 with e1
    subst e1; subst e3
    rw [List.take_of_length_le (by simp; omega)] at ht
    rw [hg, ← ht]
    exact ⟨by simp, by rw [ht]; exact hl⟩
theorem src_cells {x : Addr} {len : Nat} {zs : List Int} {w w1 : World} {cs : List Value} (hc : ∀ i, i < zs.length → w.cell? (x.add i) = some (.int .u8 (zs.getD i 0))) (hb : Below w.heap.size w w1) (hcs : cs = (zs.take len).map (Value.int .u8)) :
    ∀ j v, cs[j]? = some v → w1.cell? (x.add j) = some v := by
  intro j v hj
  rw [hcs, List.getElem?_map] at hj
  obtain ⟨z, hz, rfl⟩ := Option.map_eq_some_iff.1 hj
  rw [List.getElem?_take] at hz
  split at hz
  · obtain ⟨hlt, hz⟩ := List.getElem?_eq_some_iff.1 hz
    have h := hc j hlt
    have e : zs.getD j 0 = z := by simp [List.getD, List.getElem?_eq_getElem hlt, hz]
    rw [e] at h
    exact (hb.cell (World.block_lt_of_cell? w _ h)).trans h
  · cases hz
theorem cs_length {n cap : Nat} {zs : List Int} {cs : List Value} (hz : zs.length = cap) (hl : n ≤ cap) (hcs : cs = (zs.take n).map (Value.int .u8)) : cs.length = n := by
  rw [hcs, List.length_map, List.length_take]; omega
theorem splice_all {α : Type} {cur cs : List α} {n : Nat} (h1 : cur.length = n) (h2 : cs.length = n) : splice cur 0 cs = cs := by
  unfold splice
  rw [List.take_zero, List.nil_append, List.drop_of_length_le (by omega), List.append_nil]
theorem one_ints {n : Nat} {zs : List Int} {cs : List Value} (hcs : cs = (zs.take n).map (Value.int .u8)) : ∀ v ∈ cs, v.oneCell' = true := by
  intro v hv; rw [hcs] at hv; obtain ⟨z, _, rfl⟩ := List.mem_map.1 hv; rfl

/-- The copy is a text. -/
theorem text_copied {n cap : Nat} {zs : List Int} {B : Nat} {w : World} (hz : zs.length = cap) (hl : n ≤ cap) (hn : n ≤ 1048576)
    (hh : w.heap[B]? = some (.cells ((zs.take n).map (Value.int .u8)).toArray 5 (0, 0))) : Text B 0 n (zs.take n) w := by
  have hlen : (zs.take n).length = n := by rw [List.length_take]; omega
  refine ⟨hlen, by omega, fun j hj => ?_⟩
  have : (zs.take n).getD j 0 = (zs.take n)[j]'(by omega) := by simp [List.getD, List.getElem?_eq_getElem (show j < (zs.take n).length by omega)]
  rw [this]
  simp [World.cell?, hh, hj]
/-- 'text[:k]'. -/
theorem Text.take {b n : Nat} {zs : List Int} {w : World} (h : Text b 0 n zs w) {k : Nat} (hk : k ≤ n) : Text b 0 k (zs.take k) w := by
  have h1 := h.len
  refine ⟨by rw [List.length_take]; omega, by have := h.small; omega, fun j hj => ?_⟩
  have : (zs.take k).getD j 0 = zs.getD j 0 := by simp only [List.getD, List.getElem?_take]; rw [if_pos hj]
  rw [this]; exact h.cell j (by omega)
/-- 'text[i:]'. -/
theorem Text.drop {b n : Nat} {zs : List Int} {w : World} (h : Text b 0 n zs w) (i : Nat) : Text b i (n - i) (zs.drop i) w := by
  have h1 := h.len
  refine ⟨by rw [List.length_drop]; omega, by have := h.small; omega, fun j hj => ?_⟩
  have : (zs.drop i).getD j 0 = zs.getD (i + j) 0 := by simp [List.getD, List.getElem?_drop]
  rw [this]
  have := h.cell (i + j) (by omega)
  rw [Nat.zero_add] at this
  exact this

set_option maxHeartbeats 400000 in
/-- ZZNumber passes on to number. -/
theorem zzNumber_any (b off n cap : Nat) (zs : List Int) (z : Int) (i R : Nat) (w : World) (h : Text b off n zs w) (hzi : z = (i : Int)) (hi : i < n) (hR : Pl.endAt i (Pl.aut 0 (zs.drop i)) = R) :
    Calls Try.prog 8 #[.slice (some ⟨b, off, none⟩) n cap, .int .i64 z] w fun e w' => e = .returned (.int .i64 (R : Nat)) ∧ w' = w := by
  have HT : Hid (Text b off n zs w) := h
  have HR := (show Hid _ from hR)
  have HZ := (show Hid _ from hzi)
  clear h hR hzi
  go_enter Try.func8, Try.ntmps8
  go_wp2_with fail
  refine (number_any b off n cap zs z i _ HT.out HZ.out hi).mono ?_
  rintro e w2 ⟨rfl, hw2⟩
  rw [hw2, HR.out]
  clear hw2 w2
  go_wp2
  go_ret
  exact ⟨rfl, rfl⟩
end Go.Proofs.Qxb6621665a
