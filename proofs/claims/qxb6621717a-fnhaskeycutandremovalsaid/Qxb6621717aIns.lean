/-
  FnHasKeyInsertedKeyIsFound, walked.
-/
import Derived.Test.Qxb6621717aBytes
namespace Go.Proofs.Qxb6621717a
open Go.ChangeShapes Go.WideShapes Go.ChangeAt Go.RowKit

theorem below_quiet {B : Nat} {w wr : World} (h : Below B w wr) (n : Nat) : Below B w (wr.drewN n) := ⟨h.os, h.tape, h.output, h.size, h.block⟩

theorem Sl.below {p : Option Addr} {n : Nat} {K V : Nat → ByteArray} {w w1 : World} (h : Sl p n K V w) (hB : Below w.heap.size w w1) : Sl p n K V w1 := by
  rcases h with h | ⟨b, off, e, hb, hp⟩
  · exact .inl h
  · exact .inr ⟨b, off, e, Nat.lt_of_lt_of_le hb hB.size, hp.below hb hB⟩
theorem Sl.at {p : Option Addr} {n : Nat} {K V : Nat → ByteArray} {w : World} (h : Sl p n K V w) (j : Nat) (hj : j < n) : ∃ b off, p = some ⟨b, off, none⟩ ∧ w.cell? ⟨b, off + j * 2, none⟩ = some (.string (K j)) ∧ w.cell? ⟨b, off + j * 2 + 1, none⟩ = some (.string (V j)) := by
  rcases h with h | ⟨b, off, e, hb, hp⟩
  · omega
  · exact ⟨b, off, e, hp.key j hj, hp.val j hj⟩

/-- What a copy is. -/
def Cl (q : Option Addr) (c n : Nat) : Prop := (q = none ∧ n = 0 ∧ c = 0) ∨ ∃ B, q = some ⟨B, 0, none⟩ ∧ c = n
/-- A slice comes in so. -/
def Arg (p : Option Addr) (n cap : Nat) (K V : Nat → ByteArray) (w : World) : Prop := (p = none ∧ n = 0 ∧ cap = 0) ∨ ∃ a, p = some a ∧ Sl p n K V w
theorem Arg.sl {p : Option Addr} {n cap : Nat} {K V : Nat → ByteArray} {w : World} (h : Arg p n cap K V w) : Sl p n K V w := by
  rcases h with ⟨_, h, _⟩ | ⟨a, _, h⟩
  · exact .inl h
  · exact h
theorem Arg.below {p : Option Addr} {n cap : Nat} {K V : Nat → ByteArray} {w w1 : World} (h : Arg p n cap K V w) (hB : Below w.heap.size w w1) : Arg p n cap K V w1 := by
  rcases h with h | ⟨a, e, h⟩
  · exact .inl h
  · exact .inr ⟨a, e, h.below hB⟩
theorem Sl.cells {b off n : Nat} {K V : Nat → ByteArray} {w : World} (h : Sl (some ⟨b, off, none⟩) n K V w) (j : Nat) (hj : j < n) : w.cell? ⟨b, off + j * 2, none⟩ = some (.string (K j)) ∧ w.cell? ⟨b, off + j * 2 + 1, none⟩ = some (.string (V j)) := by
  obtain ⟨b', off', e, h1, h2⟩ := h.at j hj
  injection e with e
  injection e with e1 e2
  subst e1; subst e2
  exact ⟨h1, h2⟩
theorem clone_both (p : Option Addr) (n cap : Nat) (K V : Nat → ByteArray) (w : World) (h : Arg p n cap K V w) (hn : n ≤ 2097152) :
    Calls Try.prog 6 #[.slice p n cap] w fun e w' => ∃ q c, e = .returned (.slice q n c) ∧ Sl q n K V w' ∧ Cl q c n ∧ Below w.heap.size w w' := by
  rcases h with ⟨rfl, rfl, rfl⟩ | ⟨a, rfl, hp⟩
  · refine (clone_nil w).mono ?_
    rintro e w' ⟨rfl, rfl⟩
    exact ⟨_, _, rfl, .inl rfl, .inl ⟨rfl, rfl, rfl⟩, Below.refl _ _⟩
  · refine (clone_any a n cap K V w hp hn).mono ?_
    rintro e w' ⟨B, rfl, hps, _, hB, hb2⟩
    exact ⟨_, _, rfl, .inr ⟨B, 0, rfl, hB, hps⟩, .inr ⟨B, rfl, rfl⟩, hb2⟩

/-! ### The rows that the laws grow -/
/-- The cells of a list of pairs. -/
def rowOf (L : List (ByteArray × ByteArray)) : List Value := L.flatMap fun p => [.string p.1, .string p.2]
theorem rowOf_snoc (L : List (ByteArray × ByteArray)) (a b : ByteArray) : rowOf (L ++ [(a, b)]) = rowOf L ++ [.string a, .string b] := by simp [rowOf]
theorem rowOf_get (d : ByteArray × ByteArray) : ∀ (L : List (ByteArray × ByteArray)) (t : Nat), t < L.length → (rowOf L)[t * 2]? = some (.string (L.getD t d).1) ∧ (rowOf L)[t * 2 + 1]? = some (.string (L.getD t d).2)
  | [], t, h => by simp at h
  | p :: L, 0, _ => by simp [rowOf]
  | p :: L, t + 1, h => by
    have e : (t + 1) * 2 = t * 2 + 1 + 1 := by omega
    have e2 : rowOf (p :: L) = .string p.1 :: .string p.2 :: rowOf L := rfl
    rw [e, e2]
    simpa using rowOf_get d L t (by simpa using h)
/-- The key among the pairs. -/
def hasL (L : List (ByteArray × ByteArray)) (key : ByteArray) : Bool := L.any fun p => eqS p.1 key
theorem hasL_snoc (L : List (ByteArray × ByteArray)) (a b key : ByteArray) : hasL (L ++ [(a, b)]) key = (hasL L key || eqS a key) := by simp [hasL]
theorem hasL_hasN (d : ByteArray × ByteArray) (key : ByteArray) (L : List (ByteArray × ByteArray)) : ∀ n, n ≤ L.length → hasN (fun t => (L.getD t d).1) key n = hasL (L.take n) key
  | 0, _ => rfl
  | n + 1, h => by
    unfold hasN
    rw [hasL_hasN d key L n (by omega), List.take_succ_eq_append_getElem (by omega)]
    rw [show L[n] = (L[n].1, L[n].2) from rfl, hasL_snoc]
    simp [List.getD, List.getElem?_eq_getElem (show n < L.length by omega)]
/-- The row of the pairs, of the call's own. -/
def Own (base g cap : Nat) (L : List (ByteArray × ByteArray)) (w : World) : Prop := w.ownsRow base 25 2 (.slice (some ⟨g, 0, none⟩) L.length cap) L.length (rowOf L)
theorem Own.lt {base g cap : Nat} {L : List (ByteArray × ByteArray)} {w : World} (h : Own base g cap L w) : g < w.heap.size := (World.ownsRow.lt h g rfl).2
theorem Own.sl {base g cap : Nat} {L : List (ByteArray × ByteArray)} {w : World} (h : Own base g cap L w) (d : ByteArray × ByteArray) : Sl (some ⟨g, 0, none⟩) L.length (fun t => (L.getD t d).1) (fun t => (L.getD t d).2) w := by
  refine .inr ⟨g, 0, rfl, h.lt, ⟨fun j hj => ?_, fun j hj => ?_⟩⟩
  · rw [Nat.zero_add, World.ownsRow.cellAt h _ (by omega)]; exact (rowOf_get d L j hj).1
  · rw [Nat.zero_add, World.ownsRow.cellAt h _ (by omega)]; exact (rowOf_get d L j hj).2
theorem Own.has {base g cap : Nat} {L : List (ByteArray × ByteArray)} {w : World} (h : Own base g cap L w) (key : ByteArray) (hn : L.length ≤ 2097152) :
    Calls Try.prog 7 #[.slice (some ⟨g, 0, none⟩) L.length cap, .string key] w fun e w' => e = .returned (.bool (hasL L key)) ∧ Below w.heap.size w w' := by
  have h1 := has_any _ _ cap _ _ key w (h.sl (⟨#[]⟩, ⟨#[]⟩)) hn
  rw [hasL_hasN _ _ _ _ (Nat.le_refl _), List.take_length] at h1
  exact h1
theorem two_new (w : World) (a b : ByteArray) (t : TypeId) : ∀ (j : Nat) (u : Value), [Value.string a, Value.string b][j]? = some u → (w.alloc (.cells #[.string a, .string b] t)).cell? ((⟨w.heap.size, 0, none⟩ : Addr).add j) = some u := by
  intro j u hj
  match j, hj with
  | 0, hj => simp at hj; subst hj; simp [Addr.add]
  | 1, hj => simp at hj; subst hj; simp [Addr.add]
theorem two_cell (a b : ByteArray) : ∀ u ∈ [Value.string a, Value.string b], u.oneCell' = true := by
  intro u hu
  simp at hu
  rcases hu with rfl | rfl <;> rfl
theorem Own.snoc {base g cap n : Nat} {L : List (ByteArray × ByteArray)} {a b : ByteArray} {w : World} (h : w.ownsRow base 25 2 (.slice (some ⟨g, 0, none⟩) (n + 1) cap) (n + 1) (rowOf L ++ [.string a, .string b])) (e : L.length = n) : Own base g cap (L ++ [(a, b)]) w := by
  unfold Own
  rw [rowOf_snoc]
  simpa [e] using h
theorem Own.below {base g cap : Nat} {L : List (ByteArray × ByteArray)} {w w1 : World} (h : Own base g cap L w) (hB : Below w.heap.size w w1) : Own base g cap L w1 := by
  have hg := h.lt
  unfold Own World.ownsRow at h ⊢
  refine ⟨h.1, ?_⟩
  rcases h.2 with ⟨hv, _⟩ | ⟨g', cap', cur, hv, hb, hg', rest⟩
  · cases hv
  · have : g' = g := by injection hv with e1; injection e1 with e1; injection e1 with e1; exact e1.symm
    exact .inr ⟨g', cap', cur, hv, hb, by rw [hB.block g' (by omega)]; exact hg', rest⟩

theorem owned {base g cap : Nat} {L : List (ByteArray × ByteArray)} {a : ByteArray × ByteArray} {w : World} (h : Own base g cap (L ++ [a]) w) : Hid (w.ownsRow base 25 2 (.slice (some ⟨g, 0, none⟩) (L.length + 1) cap) (L.length + 1) (rowOf (L ++ [a]))) := by
  unfold Own at h
  rw [show (L ++ [a]).length = L.length + 1 by simp] at h
  exact h
theorem eqS_comm (a b : ByteArray) : eqS a b = eqS b a := by
  unfold eqS
  rw [Bool.eq_iff_iff, beq_iff_eq, beq_iff_eq]
  exact eq_comm
theorem eqS_refl (a : ByteArray) : eqS a a = true := by unfold eqS; exact beq_self_eq_true _

/-- What stands behind r rounds: the key in at i. -/
def InvI (K : Nat → ByteArray) (key : ByteArray) (i n r : Nat) (L : List (ByteArray × ByteArray)) : Prop := L.length = min r n + (if i < r then 1 else 0) ∧ ∀ q, hasL L q = (hasN K q (min r n) || (decide (i < r) && eqS key q))
theorem InvI.start (K : Nat → ByteArray) (key : ByteArray) (i n : Nat) : InvI K key i n 0 [] := ⟨by simp, fun q => by simp [hasL, hasN]⟩
theorem InvI.both {K : Nat → ByteArray} {key val v : ByteArray} {n r : Nat} {L : List (ByteArray × ByteArray)} (h : InvI K key r n r L) (hr : r < n) : InvI K key r n (r + 1) (L ++ [(key, val)] ++ [(K r, v)]) := by
  obtain ⟨h1, h2⟩ := h
  have e1 : min r n = r := by omega
  have e2 : min (r + 1) n = r + 1 := by omega
  refine ⟨by simp [h1, e1, e2], fun q => ?_⟩
  rw [hasL_snoc, hasL_snoc, h2 q, e1, e2]
  simp [hasN]
  cases hasN K q r <;> cases eqS (K r) q <;> cases eqS key q <;> rfl
theorem InvI.only {K : Nat → ByteArray} {key val : ByteArray} {n : Nat} {L : List (ByteArray × ByteArray)} (h : InvI K key n n n L) : InvI K key n n (n + 1) (L ++ [(key, val)]) := by
  obtain ⟨h1, h2⟩ := h
  have e1 : min n n = n := by omega
  have e2 : min (n + 1) n = n := by omega
  refine ⟨by simp [h1, e2], fun q => ?_⟩
  rw [hasL_snoc, h2 q, e1, e2]
  simp
theorem InvI.src {K : Nat → ByteArray} {key v : ByteArray} {i n r : Nat} {L : List (ByteArray × ByteArray)} (h : InvI K key i n r L) (hi : r ≠ i) (hr : r < n) : InvI K key i n (r + 1) (L ++ [(K r, v)]) := by
  obtain ⟨h1, h2⟩ := h
  have e1 : min r n = r := by omega
  have e2 : min (r + 1) n = r + 1 := by omega
  have e3 : (i < r + 1) ↔ (i < r) := by omega
  refine ⟨by simp [h1, e1, e2, e3]; omega, fun q => ?_⟩
  rw [hasL_snoc, h2 q, e1, e2]
  simp only [hasN, e3]
  cases hasN K q r <;> cases eqS (K r) q <;> cases (decide (i < r) && eqS key q) <;> rfl
theorem InvI.last {K : Nat → ByteArray} {key : ByteArray} {i n : Nat} {L : List (ByteArray × ByteArray)} (h : InvI K key i n n L) (hi : n ≠ i) : InvI K key i n (n + 1) L := by
  obtain ⟨h1, h2⟩ := h
  have e1 : min n n = n := by omega
  have e2 : min (n + 1) n = n := by omega
  have e3 : (i < n + 1) ↔ (i < n) := by omega
  refine ⟨by simp [h1, e2, e3], fun q => ?_⟩
  rw [h2 q, e1, e2]
  simp only [e3]
theorem InvI.small {K : Nat → ByteArray} {key : ByteArray} {i n r : Nat} {L : List (ByteArray × ByteArray)} (h : InvI K key i n r L) : L.length ≤ r + 1 ∧ (i = r → L.length ≤ r) := by
  obtain ⟨h1, _⟩ := h
  split at h1 <;> omega
theorem InvI.done {K : Nat → ByteArray} {key : ByteArray} {i n : Nat} {L : List (ByteArray × ByteArray)} (h : InvI K key i n (n + 1) L) (hi : i ≤ n) : ∀ q, hasL L q = (hasN K q n || eqS key q) := by
  intro q
  have e2 : min (n + 1) n = n := by omega
  have e3 : i < n + 1 := by omega
  rw [h.2 q, e2]
  simp [e3]

set_option maxHeartbeats 1000000 in
set_option maxRecDepth 10000 in
theorem ins_any (p : Option Addr) (n cap : Nat) (K V : Nat → ByteArray) (i : Int) (key val key2 : ByteArray) (w : World) (h : Arg p n cap K V w) (hn : n ≤ maxLen) (hk : key.size ≤ maxLen) (hv : val.size ≤ maxLen) (hk2 : key2.size ≤ maxLen) (hK : ∀ j, j < n → (K j).size ≤ maxLen ∧ (V j).size ≤ maxLen) :
    Calls Try.prog 3 #[.slice p n cap, .int .i64 i, .string key, .string val, .string key2] w fun e w' => e = .returned (.bool true) ∧ Below w.heap.size w w' := by
  have HA : Hid (Arg p n cap K V w) := h
  have HK : Hid (∀ j, j < n → (K j).size ≤ maxLen ∧ (V j).size ≤ maxLen) := hK
  clear h hK
  go_enter Try.func3, Try.ntmps3
  go_wp2_with fail
  refine (bytes5_any p n cap K V i key val key2 w HA.out.sl hn hk hv hk2 HK.out).mono ?_
  rintro e w2 ⟨v, rfl, hvv, rfl⟩
  cases v with
  | false =>
    go_wp2
    go_ret
    exact ⟨rfl, Below.refl _ _⟩
  | true =>
  obtain ⟨⟨h1, hF⟩, hks⟩ := hvv rfl
  have HF : Hid (∀ j, j < n → (K j).size ≤ 1048576 ∧ (V j).size ≤ 1048576) := hF
  unfold maxLen at hn hk hv hk2
  clear hF hvv
  go_wp2
  go_loopw [11, 12] (fun t i wr => ∃ (j tot : Nat), j ≤ n ∧ i = .int .i64 j ∧ t = .int .i64 tot ∧ tot ≤ 1048576 ∧ 32 * j ≤ tot ∧ Below w2.heap.size w2 wr) (fun _ i _ => n - (intOf i).toNat)
  case atStart => exact ⟨0, 0, Nat.zero_le _, rfl, rfl, by omega, by omega, Below.refl _ _⟩
  case round =>
    obtain ⟨j, tot, hj, rfl, rfl, ht, htj, hB⟩ := hrel
    by_cases hlt : j < n
    · obtain ⟨b, off, rfl, hck, hcv⟩ := (HA.out.below hB).sl.at j hlt
      obtain ⟨kj, hkj⟩ : ∃ s, s = K j := ⟨_, rfl⟩
      obtain ⟨vj, hvj⟩ : ∃ s, s = V j := ⟨_, rfl⟩
      have hs1 : kj.size ≤ 1048576 := by rw [hkj]; exact (HF.out j hlt).1
      have hs2 : vj.size ≤ 1048576 := by rw [hvj]; exact (HF.out j hlt).2
      rw [← hkj] at hck
      rw [← hvj] at hcv
      clear hkj hvj
      go_wp2
      go_cut [11] (fun s wx => s = .int .i64 ((tot + (32 + kj.size + vj.size) : Nat) : Int) ∧ Below w2.heap.size w2 wx)
      case first =>
        have hi1 : (0 : Int) ≤ (j : Int) := by omega
        have hi2 : (j : Int) < (n : Int) := by omega
        go_quiet (fail)
        go_wp2
        go_meet
        exact ⟨by go_num, below_quiet hB _⟩
      case rest =>
        obtain ⟨rfl, hb'⟩ := hcut
        clear hck hcv
        by_cases hgt : tot + (32 + kj.size + vj.size) ≤ 1048576
        · go_wp2
          refine ⟨⟨j + 1, tot + (32 + kj.size + vj.size), by omega, by go_num, rfl, hgt, by omega, hb'⟩, by simp [intOf]; omega⟩
        · go_wp2
          go_ret
          exact ⟨rfl, hb'⟩
    · obtain rfl : j = n := by omega
      obtain ⟨i0, hi0, hz0, hz1, hz2⟩ := info_parts Try.info25
      clear HF HK
      go_wp2_with fail
      all_goals first | (go_ret; exact ⟨rfl, hB⟩) | skip
      obtain ⟨i, rfl⟩ : ∃ t : Nat, i = t := ⟨i.toNat, by omega⟩
      have hij : i ≤ j := by omega
      refine (clone_both p j cap K V wr (HA.out.below hB) (by omega)).mono ?_
      rintro e wc ⟨q, c, rfl, hsl, hcl, hbc⟩
      have HSL : Hid (Sl q j K V wc) := hsl
      have hbw : Below w2.heap.size w2 wc := hB.trans (hbc.mono hB.size)
      clear hsl hcl hbc hB HA
      go_wp2_with (first | (at_make; refine wpList_make_own _ rfl _ _ 22 rfl wc.heap.size 25 i0 (.agg #[.string ⟨#[]⟩, .string ⟨#[]⟩]) 2 Try.underlying22 hi0 hz0 hz1 .i64 .i64 _ (j + 1) rfl rfl (by omega) ?b2 ?b3 (Nat.le_refl _) ?_) | go_in)
      case b2 => rw [hz2]; omega
      case b3 => unfold maxLen; omega
      intro w3 hown3 hgrow3
      have HO3 : Hid (Own wc.heap.size wc.heap.size (j + 1) [] w3) := hown3
      have hb3 : Below wc.heap.size wc w3 := (Below.refl _ _).grown hgrow3 (Nat.le_refl _) (fun k h => by cases h)
      clear hown3 hgrow3
      go_wp2
      go_loopw [13, 14] (fun s i' wq => ∃ (r : Nat) (L : List (ByteArray × ByteArray)), r ≤ j + 1 ∧ i' = .int .i64 r ∧ s = .slice (some ⟨wc.heap.size, 0, none⟩) L.length (j + 1) ∧ Own wc.heap.size wc.heap.size (j + 1) L wq ∧ InvI K key i j r L ∧ Below wc.heap.size wc wq) (fun _ i' _ => j + 1 - (intOf i').toNat)
      case atStart => exact ⟨0, [], Nat.zero_le _, rfl, rfl, HO3.out, InvI.start _ _ _ _, hb3⟩
      case round =>
        obtain ⟨r, L, hr, rfl, rfl, hO, hI, hB4⟩ := hrel
        have hL := hI.small
        have HI : Hid (InvI K key i j r L) := hI
        have HO : Hid (Own wc.heap.size wc.heap.size (j + 1) L wr) := hO
        clear hI hO HO3 hb3 w3
        by_cases hle : r ≤ j
        · by_cases hri : r = i
          · have hL2 : L.length ≤ r := hL.2 hri.symm
            clear hL
            by_cases hrj : r < j
            · subst hri
              have hq0 : ((r : Int) == (r : Int)) = true := beq_self_eq_true _
              obtain ⟨b, off, rfl, _, _⟩ := HSL.out.at r hrj
              obtain ⟨kr, hkr⟩ : ∃ s, s = K r := ⟨_, rfl⟩
              obtain ⟨vr, hvr⟩ : ∃ s, s = V r := ⟨_, rfl⟩
              have HKR : Hid (kr = K r) := hkr
              have HVR : Hid (vr = V r) := hvr
              clear hkr hvr
              go_wp2_with (at_builtin; refine wpList_append_fits _ rfl _ _ 22 rfl wc.heap.size 25 i0 2 Try.underlying22 hi0 hz1 wc.heap.size L.length (j + 1) (rowOf L) rfl (World.ownsRow.alloc HO.out _) ⟨wr.heap.size, 0, none⟩ 1 1 [.string key, .string val] rfl rfl (two_new _ _ _ _) (two_cell _ _) (by omega) ?_)
              intro w4 hown4 hgrow4
              have hb4 : Below wc.heap.size wc w4 := (hB4.alloc hB4.size _).grown hgrow4 (hB4.alloc hB4.size _).size (fun k h => by injection h with h; omega)
              have HO4 : Hid (Own wc.heap.size wc.heap.size (j + 1) (L ++ [(key, val)]) w4) := Own.snoc hown4 rfl
              have hck : w4.cell? ⟨b, off + r * 2, none⟩ = some (.string kr) := by rw [HKR.out]; exact ((HSL.out.below hb4).cells r hrj).1
              have hcv : w4.cell? ⟨b, off + r * 2 + 1, none⟩ = some (.string vr) := by rw [HVR.out]; exact ((HSL.out.below hb4).cells r hrj).2
              clear hown4 hgrow4
              go_wp2_with (at_builtin; refine wpList_append_fits _ rfl _ _ 22 rfl wc.heap.size 25 i0 2 Try.underlying22 hi0 hz1 wc.heap.size (L.length + 1) (j + 1) (rowOf (L ++ [(key, val)])) rfl (World.ownsRow.alloc (owned HO4.out).out _) ⟨w4.heap.size, 0, none⟩ 1 1 [.string kr, .string vr] rfl rfl (two_new _ _ _ _) (two_cell _ _) (by omega) ?_)
              intro w5 hown5 hgrow5
              have hb5 : Below wc.heap.size wc w5 := (hb4.alloc hb4.size _).grown hgrow5 (hb4.alloc hb4.size _).size (fun k h => by injection h with h; omega)
              have HO5 : Hid (Own wc.heap.size wc.heap.size (j + 1) (L ++ [(key, val)] ++ [(kr, vr)]) w5) := Own.snoc hown5 (by simp)
              clear hown5 hgrow5
              go_wp2
              refine ⟨⟨r + 1, L ++ [(key, val)] ++ [(kr, vr)], by omega, by go_num, by simp, HO5.out, by rw [HKR.out]; exact HI.out.both hrj, hb5⟩, by simp [intOf] <;> omega⟩
            · have hq0 : ((r : Int) == (i : Int)) = true := beq_iff_eq.2 (by omega)
              have hri1 : r ≤ i := by omega
              have hri2 : i ≤ r := by omega
              clear hri
              go_wp2_with (at_builtin; refine wpList_append_fits _ rfl _ _ 22 rfl wc.heap.size 25 i0 2 Try.underlying22 hi0 hz1 wc.heap.size L.length (j + 1) (rowOf L) rfl (World.ownsRow.alloc HO.out _) ⟨wr.heap.size, 0, none⟩ 1 1 [.string key, .string val] rfl rfl (two_new _ _ _ _) (two_cell _ _) (by omega) ?_)
              intro w4 hown4 hgrow4
              have hb4 : Below wc.heap.size wc w4 := (hB4.alloc hB4.size _).grown hgrow4 (hB4.alloc hB4.size _).size (fun k h => by injection h with h; omega)
              have HO4 : Hid (Own wc.heap.size wc.heap.size (j + 1) (L ++ [(key, val)]) w4) := Own.snoc hown4 rfl
              clear hown4 hgrow4
              go_wp2
              refine ⟨⟨r + 1, L ++ [(key, val)], by omega, by go_num, by simp, HO4.out, ?_, hb4⟩, by simp [intOf] <;> omega⟩
              obtain rfl : r = i := by omega
              obtain rfl : r = j := by omega
              exact HI.out.only
          · have hq0 : ((r : Int) == (i : Int)) = false := beq_eq_false_iff_ne.2 (by omega)
            by_cases hrj : r < j
            · obtain ⟨b, off, rfl, _, _⟩ := HSL.out.at r hrj
              obtain ⟨kr, hkr⟩ : ∃ s, s = K r := ⟨_, rfl⟩
              obtain ⟨vr, hvr⟩ : ∃ s, s = V r := ⟨_, rfl⟩
              have HKR : Hid (kr = K r) := hkr
              have HVR : Hid (vr = V r) := hvr
              have hck : wr.cell? ⟨b, off + r * 2, none⟩ = some (.string kr) := by rw [hkr]; exact ((HSL.out.below hB4).cells r hrj).1
              have hcv : wr.cell? ⟨b, off + r * 2 + 1, none⟩ = some (.string vr) := by rw [hvr]; exact ((HSL.out.below hB4).cells r hrj).2
              clear hkr hvr
              go_wp2_with (at_builtin; refine wpList_append_fits _ rfl _ _ 22 rfl wc.heap.size 25 i0 2 Try.underlying22 hi0 hz1 wc.heap.size L.length (j + 1) (rowOf L) rfl (World.ownsRow.alloc HO.out _) ⟨wr.heap.size, 0, none⟩ 1 1 [.string kr, .string vr] rfl rfl (two_new _ _ _ _) (two_cell _ _) (by omega) ?_)
              intro w4 hown4 hgrow4
              have hb4 : Below wc.heap.size wc w4 := (hB4.alloc hB4.size _).grown hgrow4 (hB4.alloc hB4.size _).size (fun k h => by injection h with h; omega)
              have HO4 : Hid (Own wc.heap.size wc.heap.size (j + 1) (L ++ [(kr, vr)]) w4) := Own.snoc hown4 rfl
              clear hown4 hgrow4
              go_wp2
              refine ⟨⟨r + 1, L ++ [(kr, vr)], by omega, by go_num, by simp, HO4.out, by rw [HKR.out]; exact HI.out.src hri hrj, hb4⟩, by simp [intOf] <;> omega⟩
            · obtain rfl : r = j := by omega
              go_wp2
              refine ⟨⟨r + 1, L, Nat.le_refl _, by go_num, rfl, HO.out, HI.out.last hri, hB4⟩, by simp [intOf] <;> omega⟩
        · obtain rfl : r = j + 1 := by omega
          have hD := HI.out.done hij
          obtain ⟨E, hE⟩ : ∃ E, (key2.toList == key.toList) = E := ⟨_, rfl⟩
          obtain ⟨B, hBB⟩ : ∃ B, B = hasN K key2 j := ⟨_, rfl⟩
          have H1 : Hid (hasL L key = true) := by rw [Hid, hD key, eqS_refl]; simp
          have H2 : Hid (hasL L key2 = (B || E)) := by rw [Hid, hD key2, ← hBB, eqS_comm, ← hE]; rfl
          go_wp2_with fail
          have cB := has_any q j c K V key2 wr (HSL.out.below hB4) (by omega)
          rw [← hBB] at cB
          refine cB.mono ?_
          rintro e w5 ⟨rfl, hb5⟩
          have HO5 : Hid (Own wc.heap.size wc.heap.size (j + 1) L w5) := HO.out.below hb5
          have hB5 : Below wc.heap.size wc w5 := hB4.trans (hb5.mono hB4.size)
          clear cB hBB hD hb5
          go_wp2_with fail
          have cI := HO5.out.has key (by omega)
          rw [H1.out] at cI
          refine cI.mono ?_
          rintro e w6 ⟨rfl, hb6⟩
          have HO6 : Hid (Own wc.heap.size wc.heap.size (j + 1) L w6) := HO5.out.below hb6
          have hB6 : Below wc.heap.size wc w6 := hB5.trans (hb6.mono hB5.size)
          clear cI hb6
          have cJ := HO6.out.has key2 (by omega)
          rw [H2.out] at cJ
          cases B <;> cases E
          all_goals (
            simp only [Bool.or_true, Bool.or_false] at cJ
            go_wp2_with fail
            refine cJ.mono ?_
            clear cJ
            rintro e w7 ⟨rfl, hb7⟩
            have hB7 : Below wc.heap.size wc w7 := hB6.trans (hb7.mono hB6.size)
            go_wp2
            go_ret
            exact ⟨rfl, hbw.trans (hB7.mono hbw.size)⟩)
end Go.Proofs.Qxb6621717a
