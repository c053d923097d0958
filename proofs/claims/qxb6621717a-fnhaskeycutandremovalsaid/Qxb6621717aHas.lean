/-
  hasKey.
-/
import Derived.Test.Qxb6621717aRows
import Derived.WalkKit
import Derived.ProofKit
import Derived.Below
import Derived.OpenShut
import Derived.WalkSpells
import Derived.Deep.QuietTactic
import Derived.BigQuiet
import Derived.Deep.DeepCutAuto
namespace Go.Proofs.Qxb6621717a
open Go.ChangeShapes Go.WideShapes Go.ChangeAt Go.RowKit

/-- Two strings are the same. -/
def eqS (a b : ByteArray) : Bool := a.toList == b.toList
/-- The key stands among the first n. -/
def hasN (K : Nat → ByteArray) (key : ByteArray) : Nat → Bool
  | 0 => false
  | n + 1 => hasN K key n || eqS (K n) key

theorem hasN_hit {K : Nat → ByteArray} {key : ByteArray} {j : Nat} (h : eqS (K j) key = true) : ∀ n, j < n → hasN K key n = true
  | 0, h1 => by omega
  | n + 1, h1 => by
    unfold hasN
    by_cases e : j = n
    · rw [← e, h]; simp
    · rw [hasN_hit h n (by omega)]; rfl
theorem hasN_miss {K : Nat → ByteArray} {key : ByteArray} {j : Nat} (h0 : hasN K key j = false) (h : eqS (K j) key = false) : hasN K key (j + 1) = false := by
  unfold hasN; rw [h0, h]; rfl
theorem hasN_congr {K K' : Nat → ByteArray} {key : ByteArray} : ∀ n, (∀ j, j < n → K j = K' j) → hasN K key n = hasN K' key n
  | 0, _ => rfl
  | n + 1, h => by unfold hasN; rw [hasN_congr n (fun j hj => h j (by omega)), h n (by omega)]

theorem ret_b {a b : Bool} (h : a = b) : Ending.returned (.bool a) = .returned (.bool b) := by rw [h]

/-! ### A block of the call's own that holds strings alone -/
/-- Block B, of the element type e, holds the m strings S. -/
def Blk (B e m : Nat) (S : Nat → ByteArray) (w : World) : Prop := w.heap[B]? = some (.cells ((List.range m).map fun t => Value.string (S t)).toArray e (0, 0))
theorem Blk.lt {B e m : Nat} {S : Nat → ByteArray} {w : World} (h : Blk B e m S w) : B < w.heap.size := lt_of_block h
theorem Blk.cell {B e m : Nat} {S : Nat → ByteArray} {w : World} (h : Blk B e m S w) (t : Nat) (ht : t < m) : w.cell? ⟨B, t, none⟩ = some (.string (S t)) := by
  unfold Blk at h
  simp [World.cell?, h, ht]
theorem Blk.free {B e m : Nat} {S : Nat → ByteArray} {w : World} (h : Blk B e m S w) (t : Nat) : w.frozen? ⟨B, t, none⟩ = false := by
  unfold Blk at h
  simp [World.frozen?, h]
theorem Blk.below {B e m : Nat} {S : Nat → ByteArray} {w w1 : World} (h : Blk B e m S w) (hB : Below w.heap.size w w1) : Blk B e m S w1 := by
  unfold Blk at h ⊢
  rw [hB.block B (lt_of_block h)]; exact h
theorem Blk.heap {B e m : Nat} {S : Nat → ByteArray} {w w1 : World} (h : Blk B e m S w) (hh : w1.heap = w.heap) : Blk B e m S w1 := by
  unfold Blk at h ⊢
  rw [hh]; exact h
theorem Blk.other {B e m : Nat} {S : Nat → ByteArray} {w : World} (h : Blk B e m S w) {a : Addr} (ha : B ≠ a.block) (v : Value) : Blk B e m S (w.setCell a v) := by
  unfold Blk at h ⊢
  rw [Below.heap_setCell _ _ _ _ ha]; exact h
theorem Blk.grown {B e m : Nat} {S : Nat → ByteArray} {w w1 : World} {row : Option Nat} (h : Blk B e m S w) (hg : w.grownBy w1 row) (hr : some B ≠ row) : Blk B e m S w1 := by
  unfold Blk at h ⊢
  rw [hg.block B (lt_of_block h) hr]; exact h
/-- S with s at t. -/
def put (S : Nat → ByteArray) (t : Nat) (s : ByteArray) : Nat → ByteArray := fun u => if u = t then s else S u
theorem put_same (S : Nat → ByteArray) (t : Nat) (s : ByteArray) : put S t s t = s := by unfold put; rw [if_pos rfl]
theorem put_other {S : Nat → ByteArray} {t u : Nat} {s : ByteArray} (h : u ≠ t) : put S t s u = S u := by unfold put; rw [if_neg h]
theorem Blk.set {B e m : Nat} {S : Nat → ByteArray} {w : World} (h : Blk B e m S w) (t : Nat) (s : ByteArray) : Blk B e m (put S t s) (w.setCell ⟨B, t, none⟩ (.string s)) := by
  unfold Blk at h ⊢
  have e1 : (w.setCell ⟨B, t, none⟩ (.string s)).heap[B]? = some (.cells (((List.range m).map fun t => Value.string (S t)).toArray.setIfInBounds t (.string s)) e (0, 0)) := by
    simp [World.setCell, Array.getElem?_modify, h]
  rw [e1]
  congr 2
  apply Array.ext
  · simp
  · intro i h1 h2
    have h3 : i < m := by simpa using h1
    by_cases e : t = i
    · subst e
      simp [put_same]
    · rw [Array.getElem_setIfInBounds_ne (by simpa using h3) e]
      simp [put_other (fun h => e h.symm)]
/-- What 'make' lays. -/
theorem blk_made1 {B e n : Nat} {w : World} (h : w.ownsRow B e 1 (.slice (some ⟨B, 0, none⟩) n n) n (madeCells #[.string ⟨#[]⟩] n).toList) : Blk B e n (fun _ => ⟨#[]⟩) w := by
  rcases h.2 with ⟨hv, _⟩ | ⟨g, cap, cur, hv, hb, hg, hle, hm, hs, ht⟩
  · cases hv
  · injection hv with e1 e2 e3
    injection e1 with e1
    injection e1 with e1
    subst e1; subst e3
    rw [List.take_of_length_le (by simp; omega)] at ht
    unfold Blk
    rw [hg]
    congr 2
    apply Array.ext'
    rw [ht, toList_madeCells_one]
    simp [List.map_const']
theorem blk_made2 {B e n : Nat} {w : World} (h : w.ownsRow B e 2 (.slice (some ⟨B, 0, none⟩) n n) n (madeCells #[.string ⟨#[]⟩, .string ⟨#[]⟩] (n * 2)).toList) : Blk B e (n * 2) (fun _ => ⟨#[]⟩) w := by
  rcases h.2 with ⟨hv, _⟩ | ⟨g, cap, cur, hv, hb, hg, hle, hm, hs, ht⟩
  · cases hv
  · injection hv with e1 e2 e3
    injection e1 with e1
    injection e1 with e1
    subst e1; subst e3
    rw [List.take_of_length_le (by simp; omega)] at ht
    unfold Blk
    rw [hg]
    congr 2
    apply Array.ext'
    rw [ht]
    unfold madeCells
    apply List.ext_getElem
    · simp
    · intro i h1 h2
      simp only [Array.toList_map, List.getElem_map, Array.getElem_toList, Array.getElem_range]
      have : i % 2 = 0 ∨ i % 2 = 1 := by omega
      rcases this with e | e <;> simp [e]

/-- A slice of structs of two strings, in memory. -/
structure Ps (b off n : Nat) (K V : Nat → ByteArray) (w : World) : Prop where
  key : ∀ j, j < n → w.cell? ⟨b, off + j * 2, none⟩ = some (.string (K j))
  val : ∀ j, j < n → w.cell? ⟨b, off + j * 2 + 1, none⟩ = some (.string (V j))
theorem Ps.below {b off n : Nat} {K V : Nat → ByteArray} {w w1 : World} (h : Ps b off n K V w) (hb : b < w.heap.size) (hB : Below w.heap.size w w1) : Ps b off n K V w1 :=
  ⟨fun j hj => (hB.cell (p := ⟨b, off + j * 2, none⟩) hb).trans (h.key j hj), fun j hj => (hB.cell (p := ⟨b, off + j * 2 + 1, none⟩) hb).trans (h.val j hj)⟩

set_option maxHeartbeats 1000000 in
set_option maxRecDepth 10000 in
theorem hasKey_any (b off n cap : Nat) (K V : Nat → ByteArray) (key : ByteArray) (w : World) (h : Ps b off n K V w) (hb : b < w.heap.size) (hn : n ≤ 2097152) :
    Calls Try.prog 11 #[.slice (some ⟨b, off, none⟩) n cap, .string key] w fun e w' => e = .returned (.bool (hasN K key n)) ∧ Below w.heap.size w w' := by
  have HP : Hid (Ps b off n K V w) := h
  clear h
  go_enter Try.func11, Try.ntmps11
  go_wp2
  go_loopw [9] (fun i wr => ∃ j : Nat, j ≤ n ∧ i = .int .i64 j ∧ hasN K key j = false ∧ Below w.heap.size w wr) (fun i _ => n - (intOf i).toNat)
  case atStart => exact ⟨0, Nat.zero_le _, rfl, rfl, Below.refl _ _⟩
  case round =>
    obtain ⟨j, hj, rfl, hf, hB⟩ := hrel
    have HF : Hid (hasN K key j = false) := hf
    clear hf
    by_cases hlt : j < n
    · obtain ⟨kj, hkj⟩ : ∃ s, s = K j := ⟨_, rfl⟩
      obtain ⟨vj, hvj⟩ : ∃ s, s = V j := ⟨_, rfl⟩
      have hck : wr.cell? ⟨b, off + j * 2, none⟩ = some (.string kj) := by rw [hkj]; exact (HP.out.below hb hB).key j hlt
      have hcv : wr.cell? ⟨b, off + j * 2 + 1, none⟩ = some (.string vj) := by rw [hvj]; exact (HP.out.below hb hB).val j hlt
      have HK := (show Hid _ from hkj)
      clear hkj hvj
      go_wp2
      · have h1 : (kj.toList == key.toList) = true := by assumption
        have HH : Hid (hasN K key n = true) := hasN_hit (j := j) (by rw [← HK.out]; exact h1) n hlt
        go_ret
        exact ⟨ret_b (by rw [HH.out]), hB.alloc hB.size _⟩
      · have h1 : (kj.toList == key.toList) = false := by assumption
        have HH : Hid (hasN K key (j + 1) = false) := hasN_miss HF.out (by rw [← HK.out]; exact h1)
        go_roundw
        case rel => exact ⟨j + 1, by omega, by go_num, HH.out, hB.alloc hB.size _⟩
        case measure => simp [intOf]; omega
    · obtain rfl : j = n := by omega
      go_wp2
      go_ret
      exact ⟨ret_b (by rw [HF.out]), hB⟩
end Go.Proofs.Qxb6621717a
