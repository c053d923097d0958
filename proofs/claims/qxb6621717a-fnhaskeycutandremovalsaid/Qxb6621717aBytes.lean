/-
  zzCloneParams and the two bounds on length.
-/
import Derived.Test.Qxb6621717aZZ
namespace Go.Proofs.Qxb6621717a
open Go.ChangeShapes Go.WideShapes Go.ChangeAt Go.RowKit

set_option maxHeartbeats 1000000 in
set_option maxRecDepth 10000 in
theorem clone_nil (w : World) : Calls Try.prog 6 #[.slice none 0 0] w fun e w' => e = .returned (.slice none 0 0) ∧ w' = w := by
  have q22 : ∀ (w : World) (a : Option Addr) (n c n' c' : Nat), (binOp .eql 22 (.slice a n c) (.slice none n' c')).run Try.prog w = .ok (.bool a.isNone) w := fun w a n c n' c' => Lib.run_eql_slice_nil w _ _ a n c n' c' Try.underlying22
  go_enter Try.func6, Try.ntmps6
  go_wp2
  go_ret
  exact ⟨rfl, rfl⟩

set_option maxHeartbeats 1000000 in
set_option maxRecDepth 10000 in
theorem clone_any (a : Addr) (n cap : Nat) (K V : Nat → ByteArray) (w : World) (h : Sl (some a) n K V w) (hn : n ≤ 2097152) :
    Calls Try.prog 6 #[.slice (some a) n cap] w fun e w' => ∃ B, e = .returned (.slice (some ⟨B, 0, none⟩) n n) ∧ Ps B 0 n K V w' ∧ w.heap.size ≤ B ∧ B < w'.heap.size ∧ Below w.heap.size w w' := by
  have HP : Hid (Sl (some a) n K V w) := h
  clear h
  obtain ⟨i0, hi0, hz0, hz1, hz2⟩ := info_two Try.info25
  have q22 : ∀ (w : World) (a : Option Addr) (n c n' c' : Nat), (binOp .eql 22 (.slice a n c) (.slice none n' c')).run Try.prog w = .ok (.bool a.isNone) w := fun w a n c n' c' => Lib.run_eql_slice_nil w _ _ a n c n' c' Try.underlying22
  go_enter Try.func6, Try.ntmps6
  go_wp2_with (first | (at_make; refine wpList_make_full _ rfl _ _ 22 rfl w.heap.size 25 i0 (.agg #[.string ⟨#[]⟩, .string ⟨#[]⟩]) 2 Try.underlying22 hi0 hz0 hz1 .i64 .i64 _ _ n rfl rfl rfl rfl ?b2 ?b3 (Nat.le_refl _) ?_) | go_in)
  case b2 => rw [hz2]; omega
  case b3 => unfold maxLen; omega
  intro w1 hown1 hgrow1
  have HB1 : Hid (Blk w.heap.size 25 (n * 2) (fun _ => ⟨#[]⟩) w1) := blk_made2 hown1
  have hb1 : Below w.heap.size w w1 := (Below.refl _ _).grown hgrow1 (Nat.le_refl _) (fun k h => by cases h)
  clear hown1 hgrow1
  go_wp2
  go_loopw [4] (fun i wr => ∃ (j : Nat) (S : Nat → ByteArray), j ≤ n ∧ i = .int .i64 j ∧ Blk w.heap.size 25 (n * 2) S wr ∧ (∀ t, t < j → S (t * 2) = K t ∧ S (t * 2 + 1) = V t) ∧ Below w.heap.size w wr) (fun i _ => n - (intOf i).toNat)
  case atStart => exact ⟨0, _, Nat.zero_le _, rfl, HB1.out, fun t ht => by omega, hb1⟩
  case round =>
    obtain ⟨j, S, hj, rfl, hS, hSt, hB⟩ := hrel
    have HS : Hid (Blk w.heap.size 25 (n * 2) S wr) := hS
    have HT : Hid (∀ t, t < j → S (t * 2) = K t ∧ S (t * 2 + 1) = V t) := hSt
    clear hS hSt
    by_cases hlt : j < n
    · rcases HP.out with h0 | ⟨b, off, ea, hb, hps⟩
      · omega
      injection ea with ea
      subst ea
      have HPS : Hid (Ps b off n K V w) := hps
      clear hps
      obtain ⟨kj, hkj⟩ : ∃ s, s = K j := ⟨_, rfl⟩
      obtain ⟨vj, hvj⟩ : ∃ s, s = V j := ⟨_, rfl⟩
      have hck : wr.cell? ⟨b, off + j * 2, none⟩ = some (.string kj) := by rw [hkj]; exact (HPS.out.below hb hB).key j hlt
      have hcv : wr.cell? ⟨b, off + j * 2 + 1, none⟩ = some (.string vj) := by rw [hvj]; exact (HPS.out.below hb hB).val j hlt
      have hf1 : wr.frozen? ⟨w.heap.size, j * 2, none⟩ = false := HS.out.free _
      have hf2 : wr.frozen? ⟨w.heap.size, j * 2 + 1, none⟩ = false := HS.out.free _
      have hc1 : wr.cell? ⟨w.heap.size, j * 2, none⟩ = some (.string (S (j * 2))) := HS.out.cell _ (by omega)
      have hc2 : wr.cell? ⟨w.heap.size, j * 2 + 1, none⟩ = some (.string (S (j * 2 + 1))) := HS.out.cell _ (by omega)
      have HK := (show Hid _ from hkj)
      have HV := (show Hid _ from hvj)
      clear hkj hvj
      go_wp2
      go_roundw
      case rel =>
        refine ⟨j + 1, _, by omega, by go_num, (HS.out.set (j * 2) kj).set (j * 2 + 1) vj, ?_, (hB.setCell (Nat.le_refl _) _).setCell (Nat.le_refl _) _⟩
        rw [HK.out, HV.out]
        exact put_two HT.out
      case measure => simp [intOf]; omega
    · obtain rfl : j = n := by omega
      go_wp2
      go_ret
      exact ⟨w.heap.size, rfl, Ps.of_blk HS.out HT.out, Nat.le_refl _, HS.out.lt, hB⟩

/-- What the bounds say. -/
def Fits (n : Nat) (K V : Nat → ByteArray) : Prop := n ≤ 1048576 ∧ ∀ j, j < n → (K j).size ≤ 1048576 ∧ (V j).size ≤ 1048576

/-- How a bound ends. -/
def Bound (n : Nat) (K V : Nat → ByteArray) (m : Nat) (w : World) (e : Ending) (w' : World) : Prop := ∃ v, e = .returned (.bool v) ∧ (v = true → Fits n K V ∧ m ≤ 1048576) ∧ w' = w
theorem Bound.no {n : Nat} {K V : Nat → ByteArray} {m : Nat} {w : World} : Bound n K V m w (.returned (.bool false)) w := ⟨false, rfl, fun h => (by cases h), rfl⟩
theorem Bound.yes {n : Nat} {K V : Nat → ByteArray} {m : Nat} {w : World} (h1 : n ≤ 1048576) (h : Hid (∀ u, u < n → (K u).size ≤ 1048576 ∧ (V u).size ≤ 1048576)) (h2 : m ≤ 1048576) : Bound n K V m w (.returned (.bool true)) w := ⟨true, rfl, fun _ => ⟨⟨h1, h.out⟩, h2⟩, rfl⟩
theorem fit_next {K V : Nat → ByteArray} {j : Nat} (h : Hid (∀ u, u < j → (K u).size ≤ 1048576 ∧ (V u).size ≤ 1048576)) (h1 : (K j).size ≤ 1048576) (h2 : (V j).size ≤ 1048576) : Hid (∀ u, u < j + 1 → (K u).size ≤ 1048576 ∧ (V u).size ≤ 1048576) := by
  intro u hu
  by_cases e : u = j
  · subst e; exact ⟨h1, h2⟩
  · exact h.out u (by omega)

set_option maxHeartbeats 1000000 in
set_option maxRecDepth 10000 in
theorem bytes8_any (p : Option Addr) (n cap : Nat) (K V : Nat → ByteArray) (i : Int) (key : ByteArray) (w : World) (h : Sl p n K V w) (hn : n ≤ maxLen) (hk : key.size ≤ maxLen) (hK : ∀ j, j < n → (K j).size ≤ maxLen ∧ (V j).size ≤ maxLen) :
    Calls Try.prog 8 #[.slice p n cap, .int .i64 i, .string key] w (Bound n K V key.size w) := by
  have HP : Hid (Sl p n K V w) := h
  have HK : Hid (∀ j, j < n → (K j).size ≤ maxLen ∧ (V j).size ≤ maxLen) := hK
  clear h hK
  unfold maxLen at hn hk
  go_enter Try.func8, Try.ntmps8
  by_cases h1 : n ≤ 1048576
  · go_wp2
    go_loop [7, 8] (fun t i => ∃ (j tot : Nat), j ≤ n ∧ i = .int .i64 j ∧ t = .int .i64 tot ∧ tot ≤ 1048576 ∧ Hid (∀ u, u < j → (K u).size ≤ 1048576 ∧ (V u).size ≤ 1048576)) (fun _ i => n - (intOf i).toNat)
    case atStart => exact ⟨0, n, Nat.zero_le _, rfl, by go_num, h1, fun u hu => by omega⟩
    case round =>
      obtain ⟨j, tot, hj, rfl, rfl, ht, HF⟩ := hrel
      by_cases hlt : j < n
      · rcases HP.out with h0 | ⟨b, off, rfl, hb, hps⟩
        · omega
        obtain ⟨kj, hkj⟩ : ∃ s, s = K j := ⟨_, rfl⟩
        obtain ⟨vj, hvj⟩ : ∃ s, s = V j := ⟨_, rfl⟩
        have hck : w.cell? ⟨b, off + j * 2, none⟩ = some (.string kj) := by rw [hkj]; exact hps.key j hlt
        have hcv : w.cell? ⟨b, off + j * 2 + 1, none⟩ = some (.string vj) := by rw [hvj]; exact hps.val j hlt
        have hs1 : kj.size ≤ maxLen := by rw [hkj]; exact (HK.out j hlt).1
        have hs2 : vj.size ≤ maxLen := by rw [hvj]; exact (HK.out j hlt).2
        unfold maxLen at hs1 hs2
        have HKJ := (show Hid _ from hkj)
        have HVJ := (show Hid _ from hvj)
        have HPS : Hid (Ps b off n K V w) := hps
        clear hkj hvj hps
        go_wp2
        all_goals first | (go_ret; exact Bound.no) | skip
        refine ⟨⟨j + 1, tot + kj.size + vj.size, by omega, by go_num, by go_num, by omega, fit_next HF (by rw [← HKJ.out]; omega) (by rw [← HVJ.out]; omega)⟩, by simp [intOf]; omega⟩
      · obtain rfl : j = n := by omega
        go_wp2
        all_goals first | (go_ret; exact Bound.no) | (go_ret; exact Bound.yes h1 HF (by omega))
  · go_wp2
    go_ret
    exact Bound.no

set_option maxHeartbeats 1000000 in
set_option maxRecDepth 10000 in
theorem bytes5_any (p : Option Addr) (n cap : Nat) (K V : Nat → ByteArray) (i : Int) (key val key2 : ByteArray) (w : World) (h : Sl p n K V w) (hn : n ≤ maxLen) (hk : key.size ≤ maxLen) (hv : val.size ≤ maxLen) (hk2 : key2.size ≤ maxLen) (hK : ∀ j, j < n → (K j).size ≤ maxLen ∧ (V j).size ≤ maxLen) :
    Calls Try.prog 5 #[.slice p n cap, .int .i64 i, .string key, .string val, .string key2] w (Bound n K V key.size w) := by
  have HP : Hid (Sl p n K V w) := h
  have HK : Hid (∀ j, j < n → (K j).size ≤ maxLen ∧ (V j).size ≤ maxLen) := hK
  clear h hK
  unfold maxLen at hn hk hv hk2
  go_enter Try.func5, Try.ntmps5
  by_cases h1 : n ≤ 1048576
  · go_wp2
    go_loop [11, 12] (fun t i => ∃ (j tot : Nat), j ≤ n ∧ i = .int .i64 j ∧ t = .int .i64 tot ∧ tot ≤ 1048576 ∧ Hid (∀ u, u < j → (K u).size ≤ 1048576 ∧ (V u).size ≤ 1048576)) (fun _ i => n - (intOf i).toNat)
    case atStart => exact ⟨0, n, Nat.zero_le _, rfl, by go_num, h1, fun u hu => by omega⟩
    case round =>
      obtain ⟨j, tot, hj, rfl, rfl, ht, HF⟩ := hrel
      by_cases hlt : j < n
      · rcases HP.out with h0 | ⟨b, off, rfl, hb, hps⟩
        · omega
        obtain ⟨kj, hkj⟩ : ∃ s, s = K j := ⟨_, rfl⟩
        obtain ⟨vj, hvj⟩ : ∃ s, s = V j := ⟨_, rfl⟩
        have hck : w.cell? ⟨b, off + j * 2, none⟩ = some (.string kj) := by rw [hkj]; exact hps.key j hlt
        have hcv : w.cell? ⟨b, off + j * 2 + 1, none⟩ = some (.string vj) := by rw [hvj]; exact hps.val j hlt
        have hs1 : kj.size ≤ maxLen := by rw [hkj]; exact (HK.out j hlt).1
        have hs2 : vj.size ≤ maxLen := by rw [hvj]; exact (HK.out j hlt).2
        unfold maxLen at hs1 hs2
        have HKJ := (show Hid _ from hkj)
        have HVJ := (show Hid _ from hvj)
        have HPS : Hid (Ps b off n K V w) := hps
        clear hkj hvj hps
        go_wp2
        all_goals first | (go_ret; exact Bound.no) | skip
        refine ⟨⟨j + 1, tot + kj.size + vj.size, by omega, by go_num, by go_num, by omega, fit_next HF (by rw [← HKJ.out]; omega) (by rw [← HVJ.out]; omega)⟩, by simp [intOf]; omega⟩
      · obtain rfl : j = n := by omega
        go_wp2
        all_goals first | (go_ret; exact Bound.no) | (go_ret; exact Bound.yes h1 HF (by omega))
  · go_wp2
    go_ret
    exact Bound.no
end Go.Proofs.Qxb6621717a
