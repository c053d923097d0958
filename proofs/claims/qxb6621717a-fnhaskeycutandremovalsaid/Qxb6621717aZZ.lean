/-
  ZZHasKey, zzSplitParams, zzHas.
-/
import Derived.Test.Qxb6621717aHas
namespace Go.Proofs.Qxb6621717a
open Go.ChangeShapes Go.WideShapes Go.ChangeAt Go.RowKit

theorem info_two {P : Program} {e : TypeId} {z : Value} {s b : Nat} (h : (P.info? e).map (fun i => (i.zero, i.size, i.bytes)) = some (some z, s, b)) : ∃ i, P.info? e = some i ∧ i.zero = some z ∧ i.size = s ∧ i.bytes = b := by
  cases e1 : P.info? e with
  | none => rw [e1] at h; cases h
  | some i =>
    rw [e1] at h
    injection h with h
    injection h with h1 h2
    injection h2 with h2 h3
    exact ⟨i, rfl, h1, h2, h3⟩
theorem Try.info36 : (Try.prog.info? 36).map (fun i => (i.zero, i.size, i.bytes)) = some (some (.agg #[.string ⟨#[]⟩, .string ⟨#[]⟩]), 2, 32) := by kernel_rfl
theorem Try.info25 : (Try.prog.info? 25).map (fun i => (i.zero, i.size, i.bytes)) = some (some (.agg #[.string ⟨#[]⟩, .string ⟨#[]⟩]), 2, 32) := by kernel_rfl
theorem Try.info9 : (Try.prog.info? 9).map (fun i => (i.zero, i.size, i.bytes)) = some (some (.string ⟨#[]⟩), 1, 16) := by kernel_rfl

theorem Blk.congr {B e m : Nat} {S T : Nat → ByteArray} {w : World} (h : Blk B e m S w) (hs : ∀ t, t < m → S t = T t) : Blk B e m T w := by
  unfold Blk at h ⊢
  rw [h]
  congr 3
  apply List.map_congr_left
  intro t ht
  rw [hs t (by simpa using ht)]
theorem Ps.of_blk {B e n : Nat} {S K V : Nat → ByteArray} {w : World} (h : Blk B e (n * 2) S w) (hs : ∀ t, t < n → S (t * 2) = K t ∧ S (t * 2 + 1) = V t) : Ps B 0 n K V w :=
  ⟨fun j hj => by rw [Nat.zero_add, ← (hs j hj).1]; exact h.cell _ (by omega), fun j hj => by rw [Nat.zero_add, ← (hs j hj).2]; exact h.cell _ (by omega)⟩
theorem put_two {S K V : Nat → ByteArray} {j : Nat} (h : ∀ t, t < j → S (t * 2) = K t ∧ S (t * 2 + 1) = V t) : ∀ t, t < j + 1 → put (put S (j * 2) (K j)) (j * 2 + 1) (V j) (t * 2) = K t ∧ put (put S (j * 2) (K j)) (j * 2 + 1) (V j) (t * 2 + 1) = V t := by
  intro t ht
  by_cases e : t = j
  · subst e
    rw [put_other (by omega), put_same, put_same]; exact ⟨rfl, rfl⟩
  · rw [put_other (by omega), put_other (by omega), put_other (by omega), put_other (by omega)]
    exact h t (by omega)
theorem put_one {S K : Nat → ByteArray} {j : Nat} (h : ∀ t, t < j → S t = K t) : ∀ t, t < j + 1 → put S j (K j) t = K t := by
  intro t ht
  by_cases e : t = j
  · subst e
    rw [put_same]
  · rw [put_other e]
    exact h t (by omega)

set_option maxHeartbeats 1000000 in
set_option maxRecDepth 10000 in
theorem zz10_any (A C n : Nat) (K V : Nat → ByteArray) (key : ByteArray) (w : World) (hA : Blk A 9 n K w) (hC : Blk C 9 n V w) (hn : n ≤ 2097152) :
    Calls Try.prog 10 #[.slice (some ⟨A, 0, none⟩) n n, .slice (some ⟨C, 0, none⟩) n n, .string key] w fun e w' => e = .returned (.bool (hasN K key n)) ∧ Below w.heap.size w w' := by
  have HA : Hid (Blk A 9 n K w) := hA
  have HC : Hid (Blk C 9 n V w) := hC
  clear hA hC
  obtain ⟨i0, hi0, hz0, hz1, hz2⟩ := info_two Try.info36
  go_enter Try.func10, Try.ntmps10
  go_wp2_with (first | (at_make; refine wpList_make_full _ rfl _ _ 33 rfl w.heap.size 36 i0 (.agg #[.string ⟨#[]⟩, .string ⟨#[]⟩]) 2 Try.underlying33 hi0 hz0 hz1 .i64 .i64 _ _ n rfl rfl rfl rfl ?b2 ?b3 (Nat.le_refl _) ?_) | go_in)
  case b2 => rw [hz2]; omega
  case b3 => unfold maxLen; omega
  intro w1 hown1 hgrow1
  have HB1 : Hid (Blk w.heap.size 36 (n * 2) (fun _ => ⟨#[]⟩) w1) := blk_made2 hown1
  have hb1 : Below w.heap.size w w1 := (Below.refl _ _).grown hgrow1 (Nat.le_refl _) (fun k h => by cases h)
  clear hown1 hgrow1
  go_wp2
  go_loopw [8] (fun i wr => ∃ (j : Nat) (S : Nat → ByteArray), j ≤ n ∧ i = .int .i64 j ∧ Blk w.heap.size 36 (n * 2) S wr ∧ (∀ t, t < j → S (t * 2) = K t ∧ S (t * 2 + 1) = V t) ∧ Below w.heap.size w wr) (fun i _ => n - (intOf i).toNat)
  case atStart => exact ⟨0, _, Nat.zero_le _, rfl, HB1.out, fun t ht => by omega, hb1⟩
  case round =>
    obtain ⟨j, S, hj, rfl, hS, hSt, hB⟩ := hrel
    have HS : Hid (Blk w.heap.size 36 (n * 2) S wr) := hS
    have HT : Hid (∀ t, t < j → S (t * 2) = K t ∧ S (t * 2 + 1) = V t) := hSt
    clear hS hSt
    by_cases hlt : j < n
    · obtain ⟨kj, hkj⟩ : ∃ s, s = K j := ⟨_, rfl⟩
      obtain ⟨vj, hvj⟩ : ∃ s, s = V j := ⟨_, rfl⟩
      have hck : wr.cell? ⟨A, j, none⟩ = some (.string kj) := by rw [hkj]; exact (HA.out.below hB).cell j hlt
      have hcv : wr.cell? ⟨C, j, none⟩ = some (.string vj) := by rw [hvj]; exact (HC.out.below hB).cell j hlt
      have hf1 : wr.frozen? ⟨w.heap.size, j * 2, none⟩ = false := HS.out.free _
      have hf2 : wr.frozen? ⟨w.heap.size, j * 2 + 1, none⟩ = false := HS.out.free _
      have hc1 : wr.cell? ⟨w.heap.size, j * 2, none⟩ = some (.string (S (j * 2))) := HS.out.cell _ (by omega)
      have hc2 : wr.cell? ⟨w.heap.size, j * 2 + 1, none⟩ = some (.string (S (j * 2 + 1))) := HS.out.cell _ (by omega)
      have HK := (show Hid _ from hkj)
      have HV := (show Hid _ from hvj)
      clear hkj hvj
      go_wp2
      go_roundw
      case rel =>
        refine ⟨j + 1, _, by omega, by go_num, (HS.out.set (j * 2) kj).set (j * 2 + 1) vj, ?_, (hB.setCell (Nat.le_refl _) _).setCell (Nat.le_refl _) _⟩
        rw [HK.out, HV.out]
        exact put_two HT.out
      case measure => simp [intOf]; omega
    · obtain rfl : j = n := by omega
      go_wp2_with fail
      refine (hasKey_any w.heap.size 0 j j K V key wr (Ps.of_blk HS.out HT.out) HS.out.lt hn).mono ?_
      rintro e w2 ⟨rfl, hb2⟩
      go_wp2
      go_ret
      exact ⟨rfl, hB.trans (hb2.mono hB.size)⟩

/-- A slice of structs of two strings: empty (nil or not), or in memory. -/
def Sl (p : Option Addr) (n : Nat) (K V : Nat → ByteArray) (w : World) : Prop := n = 0 ∨ ∃ b off, p = some ⟨b, off, none⟩ ∧ b < w.heap.size ∧ Ps b off n K V w

set_option maxHeartbeats 1000000 in
set_option maxRecDepth 10000 in
theorem split_any (p : Option Addr) (n cap : Nat) (K V : Nat → ByteArray) (w : World) (h : Sl p n K V w) (hn : n ≤ 2097152) :
    Calls Try.prog 9 #[.slice p n cap] w fun e w' => ∃ A C, e = .returned (.tuple #[.slice (some ⟨A, 0, none⟩) n n, .slice (some ⟨C, 0, none⟩) n n]) ∧ Blk A 9 n K w' ∧ Blk C 9 n V w' ∧ Below w.heap.size w w' := by
  have HP : Hid (Sl p n K V w) := h
  clear h
  obtain ⟨i0, hi0, hz0, hz1, hz2⟩ := info_two Try.info9
  go_enter Try.func9, Try.ntmps9
  go_wp2_with (first | (at_make; refine wpList_make_full _ rfl _ _ 29 rfl w.heap.size 9 i0 (.string ⟨#[]⟩) 1 Try.underlying29 hi0 hz0 hz1 .i64 .i64 _ _ n rfl rfl rfl rfl ?b2 ?b3 (Nat.le_refl _) ?_) | go_in)
  case b2 => rw [hz2]; omega
  case b3 => unfold maxLen; omega
  intro w1 hown1 hgrow1
  have HB1 : Hid (Blk w.heap.size 9 n (fun _ => ⟨#[]⟩) w1) := blk_made1 (by simpa using hown1)
  have hb1 : Below w.heap.size w w1 := (Below.refl _ _).grown hgrow1 (Nat.le_refl _) (fun k h => by cases h)
  clear hown1 hgrow1
  go_wp2_with (first | (at_make; refine wpList_make_full _ rfl _ _ 29 rfl w1.heap.size 9 i0 (.string ⟨#[]⟩) 1 Try.underlying29 hi0 hz0 hz1 .i64 .i64 _ _ n rfl rfl rfl rfl ?b2 ?b3 (Nat.le_refl _) ?_) | go_in)
  case b2 => rw [hz2]; omega
  case b3 => unfold maxLen; omega
  intro w2 hown2 hgrow2
  have HB2 : Hid (Blk w1.heap.size 9 n (fun _ => ⟨#[]⟩) w2) := blk_made1 (by simpa using hown2)
  have hne : w.heap.size < w1.heap.size := HB1.out.lt
  have HB1 : Hid (Blk w.heap.size 9 n (fun _ => ⟨#[]⟩) w2) := HB1.out.grown hgrow2 (fun h => by cases h)
  have hb2 : Below w.heap.size w w2 := hb1.grown hgrow2 hb1.size (fun k h => by cases h)
  clear hown2 hgrow2
  go_wp2
  go_loopw [6] (fun i wr => ∃ (j : Nat) (S T : Nat → ByteArray), j ≤ n ∧ i = .int .i64 j ∧ Blk w.heap.size 9 n S wr ∧ Blk w1.heap.size 9 n T wr ∧ (∀ t, t < j → S t = K t) ∧ (∀ t, t < j → T t = V t) ∧ Below w.heap.size w wr) (fun i _ => n - (intOf i).toNat)
  case atStart => exact ⟨0, _, _, Nat.zero_le _, rfl, HB1.out, HB2.out, fun t ht => by omega, fun t ht => by omega, hb2⟩
  case round =>
    obtain ⟨j, S, T, hj, rfl, hS, hT, hSt, hTt, hB⟩ := hrel
    have HS : Hid (Blk w.heap.size 9 n S wr) := hS
    have HT : Hid (Blk w1.heap.size 9 n T wr) := hT
    have HSt : Hid (∀ t, t < j → S t = K t) := hSt
    have HTt : Hid (∀ t, t < j → T t = V t) := hTt
    clear hS hT hSt hTt
    by_cases hlt : j < n
    · rcases HP.out with h0 | ⟨b, off, rfl, hb, hps⟩
      · omega
      obtain ⟨kj, hkj⟩ : ∃ s, s = K j := ⟨_, rfl⟩
      obtain ⟨vj, hvj⟩ : ∃ s, s = V j := ⟨_, rfl⟩
      have hck : wr.cell? ⟨b, off + j * 2, none⟩ = some (.string kj) := by rw [hkj]; exact (hps.below hb hB).key j hlt
      have hcv : (wr.setCell ⟨w.heap.size, j, none⟩ (.string kj)).cell? ⟨b, off + j * 2 + 1, none⟩ = some (.string vj) := by rw [hvj]; exact (hps.below hb (hB.setCell (Nat.le_refl _) _)).val j hlt
      have hf1 : wr.frozen? ⟨w.heap.size, j, none⟩ = false := HS.out.free _
      have hc1 : wr.cell? ⟨w.heap.size, j, none⟩ = some (.string (S j)) := HS.out.cell _ (by omega)
      have HT1 : Hid (Blk w1.heap.size 9 n T (wr.setCell ⟨w.heap.size, j, none⟩ (.string kj))) := HT.out.other (by show w1.heap.size ≠ w.heap.size; omega) _
      have hf2 : (wr.setCell ⟨w.heap.size, j, none⟩ (.string kj)).frozen? ⟨w1.heap.size, j, none⟩ = false := HT1.out.free _
      have hc2 : (wr.setCell ⟨w.heap.size, j, none⟩ (.string kj)).cell? ⟨w1.heap.size, j, none⟩ = some (.string (T j)) := HT1.out.cell _ (by omega)
      have HK := (show Hid _ from hkj)
      have HV := (show Hid _ from hvj)
      have HPS : Hid (Ps b off n K V w) := hps
      clear hkj hvj hps
      go_wp2
      go_roundw
      case rel =>
        refine ⟨j + 1, _, _, by omega, by go_num, (HS.out.set j kj).other (by show w.heap.size ≠ w1.heap.size; omega) _, HT1.out.set j vj, ?_, ?_, (hB.setCell (Nat.le_refl _) _).setCell (by show w.heap.size ≤ w1.heap.size; omega) _⟩
        · rw [HK.out]; exact put_one HSt.out
        · rw [HV.out]; exact put_one HTt.out
      case measure => simp [intOf]; omega
    · obtain rfl : j = n := by omega
      go_wp2
      go_ret2
      exact ⟨_, _, rfl, HS.out.congr HSt.out, HT.out.congr HTt.out, hB⟩

set_option maxHeartbeats 1000000 in
set_option maxRecDepth 10000 in
theorem has_any (p : Option Addr) (n cap : Nat) (K V : Nat → ByteArray) (key : ByteArray) (w : World) (h : Sl p n K V w) (hn : n ≤ 2097152) :
    Calls Try.prog 7 #[.slice p n cap, .string key] w fun e w' => e = .returned (.bool (hasN K key n)) ∧ Below w.heap.size w w' := by
  have HP : Hid (Sl p n K V w) := h
  clear h
  go_enter Try.func7, Try.ntmps7
  go_wp2_with fail
  refine (split_any p n cap K V w HP.out hn).mono ?_
  rintro e w2 ⟨A, C, rfl, hA, hC, hb2⟩
  have HA : Hid (Blk A 9 n K w2) := hA
  have HC : Hid (Blk C 9 n V w2) := hC
  clear hA hC
  go_wp2_with fail
  refine (zz10_any A C n K V key w2 HA.out HC.out hn).mono ?_
  rintro e w3 ⟨rfl, hb3⟩
  go_wp2
  go_ret
  exact ⟨rfl, hb2.trans (hb3.mono hb2.size)⟩
end Go.Proofs.Qxb6621717a
