/-
  FnHasKeyCutAndRemoval, walked.
-/
import Derived.Test.Qxb6621717aIns
namespace Go.Proofs.Qxb6621717a
open Go.ChangeShapes Go.WideShapes Go.ChangeAt Go.RowKit

/-- How many of the first n bear another key. -/
def cntN (K : Nat → ByteArray) (key : ByteArray) : Nat → Nat
  | 0 => 0
  | n + 1 => cntN K key n + (if eqS (K n) key = true then 0 else 1)
theorem cntN_le (K : Nat → ByteArray) (key : ByteArray) : ∀ n, cntN K key n ≤ n
  | 0 => Nat.le_refl _
  | n + 1 => by
    have := cntN_le K key n
    unfold cntN
    split <;> omega
theorem cntN_mono (K : Nat → ByteArray) (key : ByteArray) (m : Nat) : ∀ n, m ≤ n → cntN K key m ≤ cntN K key n
  | 0, h => by obtain rfl : m = 0 := by omega
               exact Nat.le_refl _
  | n + 1, h => by
    by_cases e : m = n + 1
    · rw [e]; exact Nat.le_refl _
    · have := cntN_mono K key m n (by omega)
      have e2 : cntN K key (n + 1) = cntN K key n + (if eqS (K n) key = true then 0 else 1) := rfl
      rw [e2]
      omega
theorem cntN_hit {K : Nat → ByteArray} {key : ByteArray} {n : Nat} (h : eqS (K n) key = true) : cntN K key (n + 1) = cntN K key n := by
  show cntN K key n + (if eqS (K n) key = true then 0 else 1) = _
  rw [if_pos h]; rfl
theorem cntN_miss {K : Nat → ByteArray} {key : ByteArray} {n : Nat} (h : eqS (K n) key = false) : cntN K key (n + 1) = cntN K key n + 1 := by
  show cntN K key n + (if eqS (K n) key = true then 0 else 1) = _
  rw [h, if_neg (by decide)]
theorem cntN_has (K : Nat → ByteArray) (key : ByteArray) : ∀ n, (hasN K key n = true → cntN K key n < n) ∧ (hasN K key n = false → n ≤ cntN K key n)
  | 0 => ⟨fun h => (by cases h), fun _ => Nat.zero_le _⟩
  | n + 1 => by
    obtain ⟨h1, h2⟩ := cntN_has K key n
    have hle := cntN_le K key n
    have e1 : hasN K key (n + 1) = (hasN K key n || eqS (K n) key) := rfl
    rw [e1]
    cases e : eqS (K n) key with
    | true =>
      rw [cntN_hit e]
      exact ⟨fun _ => by omega, fun h => by simp at h⟩
    | false =>
      rw [cntN_miss e, Bool.or_false]
      exact ⟨fun h => by have := h1 h; omega, fun h => by have := h2 h; omega⟩
theorem hasN_split (K : Nat → ByteArray) (key : ByteArray) (i : Nat) : ∀ m, hasN K key (i + m) = (hasN K key i || hasN (fun t => K (i + t)) key m)
  | 0 => by simp [hasN]
  | m + 1 => by
    rw [← Nat.add_assoc]
    show (hasN K key (i + m) || eqS (K (i + m)) key) = (hasN K key i || (hasN (fun t => K (i + t)) key m || eqS (K (i + m)) key))
    rw [hasN_split K key i m, Bool.or_assoc]

theorem Sl.take {p : Option Addr} {n i : Nat} {K V : Nat → ByteArray} {w : World} (h : Sl p n K V w) (hi : i ≤ n) : Sl p i K V w := by
  rcases h with h | ⟨b, off, e, hb, hp⟩
  · exact .inl (by omega)
  · exact .inr ⟨b, off, e, hb, ⟨fun j hj => hp.key j (by omega), fun j hj => hp.val j (by omega)⟩⟩
theorem Sl.drop {b off n i : Nat} {K V : Nat → ByteArray} {w : World} (h : Sl (some ⟨b, off, none⟩) n K V w) (hi : i < n) : Sl (some ⟨b, off + i * 2, none⟩) (n - i) (fun t => K (i + t)) (fun t => V (i + t)) w := by
  rcases h with h | ⟨b', off', e, hb, hp⟩
  · exact .inl (by omega)
  · injection e with e
    injection e with e1 e2
    subst e1; subst e2
    refine .inr ⟨b, off + i * 2, rfl, hb, ⟨fun j hj => ?_, fun j hj => ?_⟩⟩
    · have := hp.key (i + j) (by omega)
      rw [show off + i * 2 + j * 2 = off + (i + j) * 2 by omega]; exact this
    · have := hp.val (i + j) (by omega)
      rw [show off + i * 2 + j * 2 + 1 = off + (i + j) * 2 + 1 by omega]; exact this

set_option maxHeartbeats 1000000 in
set_option maxRecDepth 10000 in
theorem cut_any (p : Option Addr) (n cap : Nat) (K V : Nat → ByteArray) (i : Int) (key : ByteArray) (w : World) (h : Arg p n cap K V w) (hn : n ≤ maxLen) (hk : key.size ≤ maxLen) (hK : ∀ j, j < n → (K j).size ≤ maxLen ∧ (V j).size ≤ maxLen) :
    Calls Try.prog 4 #[.slice p n cap, .int .i64 i, .string key] w fun e w' => e = .returned (.bool true) ∧ Below w.heap.size w w' := by
  have HA : Hid (Arg p n cap K V w) := h
  have HK : Hid (∀ j, j < n → (K j).size ≤ maxLen ∧ (V j).size ≤ maxLen) := hK
  clear h hK
  go_enter Try.func4, Try.ntmps4
  go_wp2_with fail
  refine (bytes8_any p n cap K V i key w HA.out.sl hn hk HK.out).mono ?_
  rintro e w2 ⟨v, rfl, hvv, rfl⟩
  cases v with
  | false =>
    go_wp2
    go_ret
    exact ⟨rfl, Below.refl _ _⟩
  | true =>
  obtain ⟨⟨h1, hF⟩, hks⟩ := hvv rfl
  have HF : Hid (∀ j, j < n → (K j).size ≤ 1048576 ∧ (V j).size ≤ 1048576) := hF
  unfold maxLen at hn hk
  clear hF hvv
  go_wp2
  go_loopw [7, 8] (fun t i wr => ∃ (j tot : Nat), j ≤ n ∧ i = .int .i64 j ∧ t = .int .i64 tot ∧ tot ≤ 1048576 ∧ 32 * j ≤ tot ∧ Below w2.heap.size w2 wr) (fun _ i _ => n - (intOf i).toNat)
  case atStart => exact ⟨0, 0, Nat.zero_le _, rfl, rfl, by omega, by omega, Below.refl _ _⟩
  case round =>
    obtain ⟨j, tot, hj, rfl, rfl, ht, htj, hB⟩ := hrel
    by_cases hlt : j < n
    · obtain ⟨b, off, rfl, hck, hcv⟩ := (HA.out.below hB).sl.at j hlt
      obtain ⟨kj, hkj⟩ : ∃ s, s = K j := ⟨_, rfl⟩
      obtain ⟨vj, hvj⟩ : ∃ s, s = V j := ⟨_, rfl⟩
      have hs1 : kj.size ≤ 1048576 := by rw [hkj]; exact (HF.out j hlt).1
      have hs2 : vj.size ≤ 1048576 := by rw [hvj]; exact (HF.out j hlt).2
      rw [← hkj] at hck
      rw [← hvj] at hcv
      clear hkj hvj
      go_wp2
      go_cut [7] (fun s wx => s = .int .i64 ((tot + (32 + kj.size + vj.size) : Nat) : Int) ∧ Below w2.heap.size w2 wx)
      case first =>
        have hi1 : (0 : Int) ≤ (j : Int) := by omega
        have hi2 : (j : Int) < (n : Int) := by omega
        go_quiet (fail)
        go_wp2
        go_meet
        exact ⟨by go_num, below_quiet hB _⟩
      case rest =>
        obtain ⟨rfl, hb'⟩ := hcut
        clear hck hcv
        by_cases hgt : tot + (32 + kj.size + vj.size) ≤ 1048576
        · go_wp2
          refine ⟨⟨j + 1, tot + (32 + kj.size + vj.size), by omega, by go_num, rfl, hgt, by omega, hb'⟩, by simp [intOf]; omega⟩
        · go_wp2
          go_ret
          exact ⟨rfl, hb'⟩
    · obtain rfl : j = n := by omega
      obtain ⟨i0, hi0, hz0, hz1, hz2⟩ := info_parts Try.info25
      clear HF HK
      go_wp2_with fail
      all_goals first | (go_ret; exact ⟨rfl, hB⟩) | skip
      obtain ⟨i, rfl⟩ : ∃ t : Nat, i = t := ⟨i.toNat, by omega⟩
      have hij : i ≤ j := by omega
      refine (clone_both p j cap K V wr (HA.out.below hB) (by omega)).mono ?_
      rintro e wk ⟨q, c, rfl, hsl, hcl, hbc⟩
      have HSL : Hid (Sl q j K V wk) := hsl
      have HCL : Hid (Cl q c j) := hcl
      have hbw : Below w2.heap.size w2 wk := hB.trans (hbc.mono hB.size)
      clear hsl hcl hbc hB HA
      obtain ⟨WH, hWH⟩ : ∃ B, B = hasN K key j := ⟨_, rfl⟩
      obtain ⟨LF, hLF⟩ : ∃ B, B = hasN K key i := ⟨_, rfl⟩
      obtain ⟨RT, hRT⟩ : ∃ B, B = hasN (fun t => K (i + t)) key (j - i) := ⟨_, rfl⟩
      have HWH : Hid (WH = hasN K key j) := hWH
      have HLF : Hid (LF = hasN K key i) := hLF
      have HRT : Hid (RT = hasN (fun t => K (i + t)) key (j - i)) := hRT
      clear hWH hLF hRT
      go_wp2_with fail
      have cB := has_any q j c K V key wk HSL.out (by omega)
      rw [← HWH.out] at cB
      refine cB.mono ?_
      rintro e w5 ⟨rfl, hb5⟩
      clear cB
      go_upto_region 17 with fail
      go_cut [10] (fun s wx => s = .bool LF ∧ Below wk.heap.size wk wx)
      case first =>
        rcases HCL.out with ⟨rfl, hj0, hc0⟩ | ⟨B, rfl, hc0⟩
        · have hj1 : j ≤ 0 := by omega
          have hic : i ≤ c := by omega
          clear hj0 hc0
          go_wp2_with fail
          all_goals (
            refine (has_any _ i _ K V key _ (.inl (by omega)) (by omega)).mono ?_
            rintro e w6 ⟨rfl, hb6⟩
            go_wp2
            go_meet
            exact ⟨by rw [HLF.out], hb5.trans (hb6.mono hb5.size)⟩)
        · have hic : i ≤ c := by omega
          clear hc0
          go_wp2_with fail
          all_goals (
            refine (has_any _ i _ K V key _ ((HSL.out.below hb5).take hij) (by omega)).mono ?_
            rintro e w6 ⟨rfl, hb6⟩
            go_wp2
            go_meet
            exact ⟨by rw [HLF.out], hb5.trans (hb6.mono hb5.size)⟩)
      case rest =>
        obtain ⟨rfl, hb6⟩ := hcut
        clear hb5
        go_upto_region 18 with fail
        go_cut [11] (fun s wx => s = .bool RT ∧ Below wk.heap.size wk wx)
        case first =>
          rcases HCL.out with ⟨rfl, hj0, hc0⟩ | ⟨B, rfl, hc0⟩
          · have hj1 : j ≤ 0 := by omega
            have hc1 : c ≤ 0 := by omega
            clear hj0 hc0
            go_wp2_with fail
            all_goals (
              refine (has_any _ (j - i) _ (fun t => K (i + t)) (fun t => V (i + t)) key _ (.inl (by omega)) (by omega)).mono ?_
              rintro e w7 ⟨rfl, hb7⟩
              go_wp2
              go_meet
              exact ⟨by rw [HRT.out], hb6.trans (hb7.mono hb6.size)⟩)
          · have hc1 : c ≤ j := by omega
            have hc2 : j ≤ c := by omega
            clear hc0
            by_cases hlt2 : i < j
            · have hne : ¬ c = i := by omega
              go_wp2_with fail
              all_goals (
                refine (has_any _ (j - i) _ (fun t => K (i + t)) (fun t => V (i + t)) key _ (by have := (HSL.out.below hb6).drop hlt2; simpa using this) (by omega)).mono ?_
                rintro e w7 ⟨rfl, hb7⟩
                go_wp2
                go_meet
                exact ⟨by rw [HRT.out], hb6.trans (hb7.mono hb6.size)⟩)
            · go_wp2_with fail
              all_goals (
                refine (has_any _ (j - i) _ (fun t => K (i + t)) (fun t => V (i + t)) key _ (.inl (by omega)) (by omega)).mono ?_
                rintro e w7 ⟨rfl, hb7⟩
                go_wp2
                go_meet
                exact ⟨by rw [HRT.out], hb6.trans (hb7.mono hb6.size)⟩)
        case rest =>
          obtain ⟨rfl, hb7⟩ := hcut
          clear hb6 HCL
          go_wp2
          go_loop [12, 13] (fun k r' => ∃ r : Nat, r ≤ j ∧ r' = .int .i64 r ∧ k = .int .i64 (cntN K key r : Nat)) (fun _ r' => j - (intOf r').toNat)
          case atStart => exact ⟨0, Nat.zero_le _, rfl, rfl⟩
          case round =>
            obtain ⟨r, hr, rfl, rfl⟩ := hrel
            obtain ⟨ct, hct⟩ : ∃ c, c = cntN K key r := ⟨_, rfl⟩
            have hctl : ct ≤ r := by rw [hct]; exact cntN_le _ _ _
            have HCT : Hid (ct = cntN K key r) := hct
            rw [← hct]
            clear hct
            by_cases hrj : r < j
            · obtain ⟨b, off, rfl, hck, hcv⟩ := (HSL.out.below hb7).at r hrj
              obtain ⟨kr, hkr⟩ : ∃ s, s = K r := ⟨_, rfl⟩
              rw [← hkr] at hck
              have HKR : Hid (kr = K r) := hkr
              clear hkr hcv
              cases he : (kr.toList == key.toList) with
              | true =>
                have HE : Hid (eqS (K r) key = true) := by rw [Hid, ← HKR.out]; exact he
                have he2 : (kr.toList != key.toList) = false := by unfold bne; rw [he]; rfl
                go_wp2
                refine ⟨⟨r + 1, by omega, by go_num, by rw [cntN_hit HE.out, ← HCT.out]⟩, by simp [intOf]; omega⟩
              | false =>
                have HE : Hid (eqS (K r) key = false) := by rw [Hid, ← HKR.out]; exact he
                have he2 : (kr.toList != key.toList) = true := by unfold bne; rw [he]; rfl
                go_wp2
                refine ⟨⟨r + 1, by omega, by go_num, by rw [cntN_miss HE.out, ← HCT.out]; go_num⟩, by simp [intOf]; omega⟩
            · obtain rfl : r = j := by omega
              go_wp2_with (first | (at_make; refine wpList_make_own _ rfl _ _ 22 rfl wc.heap.size 25 i0 (.agg #[.string ⟨#[]⟩, .string ⟨#[]⟩]) 2 Try.underlying22 hi0 hz0 hz1 .i64 .i64 _ ct rfl rfl rfl ?b2 ?b3 (Nat.le_refl _) ?_) | go_in)
              case b2 => omega
              case b3 => unfold maxLen; omega
              intro w3 hown3 hgrow3
              have HO3 : Hid (Own wc.heap.size wc.heap.size ct [] w3) := hown3
              have hb3 : Below wc.heap.size wc w3 := (Below.refl _ _).grown hgrow3 (Nat.le_refl _) (fun k h => by cases h)
              clear hown3 hgrow3
              go_wp2
              go_loopw [14, 15] (fun s i' wq => ∃ (x : Nat) (L : List (ByteArray × ByteArray)), x ≤ r ∧ i' = .int .i64 x ∧ s = .slice (some ⟨wc.heap.size, 0, none⟩) L.length ct ∧ Own wc.heap.size wc.heap.size ct L wq ∧ L.length = cntN K key x ∧ hasL L key = false ∧ Below wc.heap.size wc wq) (fun _ i' _ => r - (intOf i').toNat)
              case atStart => exact ⟨0, [], Nat.zero_le _, rfl, rfl, HO3.out, rfl, rfl, hb3⟩
              case round =>
                obtain ⟨x, L, hx, rfl, rfl, hO, hLc, hLh, hB4⟩ := hrel
                have HO : Hid (Own wc.heap.size wc.heap.size ct L wr) := hO
                have HLC : Hid (L.length = cntN K key x) := hLc
                have HLH : Hid (hasL L key = false) := hLh
                have hLl : L.length ≤ x := by rw [hLc]; exact cntN_le _ _ _
                clear hO hLc hLh HO3 hb3 w3
                have hBk : Below wk.heap.size wk wr := hb7.trans (hB4.mono hb7.size)
                by_cases hxr : x < r
                · obtain ⟨b, off, rfl, _, _⟩ := HSL.out.at x hxr
                  obtain ⟨kr, hkr⟩ : ∃ s, s = K x := ⟨_, rfl⟩
                  obtain ⟨vr, hvr⟩ : ∃ s, s = V x := ⟨_, rfl⟩
                  have hck : wr.cell? ⟨b, off + x * 2, none⟩ = some (.string kr) := by rw [hkr]; exact ((HSL.out.below hBk).cells x hxr).1
                  have hcv : wr.cell? ⟨b, off + x * 2 + 1, none⟩ = some (.string vr) := by rw [hvr]; exact ((HSL.out.below hBk).cells x hxr).2
                  have HKR : Hid (kr = K x) := hkr
                  clear hkr hvr
                  cases he : (kr.toList == key.toList) with
                  | true =>
                    have HE : Hid (eqS (K x) key = true) := by rw [Hid, ← HKR.out]; exact he
                    have he2 : (kr.toList != key.toList) = false := by unfold bne; rw [he]; rfl
                    go_wp2
                    refine ⟨⟨x + 1, L, by omega, by go_num, rfl, HO.out, by rw [cntN_hit HE.out, ← HLC.out], HLH.out, hB4⟩, by simp [intOf]; omega⟩
                  | false =>
                    have HE : Hid (eqS (K x) key = false) := by rw [Hid, ← HKR.out]; exact he
                    have he2 : (kr.toList != key.toList) = true := by unfold bne; rw [he]; rfl
                    have hcap : L.length + 1 ≤ ct := by rw [HCT.out, HLC.out, ← cntN_miss HE.out]; exact cntN_mono _ _ _ _ (by omega)
                    go_wp2_with (at_builtin; refine wpList_append_fits _ rfl _ _ 22 rfl wc.heap.size 25 i0 2 Try.underlying22 hi0 hz1 wc.heap.size L.length ct (rowOf L) rfl (World.ownsRow.alloc HO.out _) ⟨wr.heap.size, 0, none⟩ 1 1 [.string kr, .string vr] rfl rfl (two_new _ _ _ _) (two_cell _ _) (by omega) ?_)
                    intro w4 hown4 hgrow4
                    have hb4 : Below wc.heap.size wc w4 := (hB4.alloc hB4.size _).grown hgrow4 (hB4.alloc hB4.size _).size (fun k h => by injection h with h; omega)
                    have HO4 : Hid (Own wc.heap.size wc.heap.size ct (L ++ [(kr, vr)]) w4) := Own.snoc hown4 rfl
                    clear hown4 hgrow4
                    go_wp2
                    refine ⟨⟨x + 1, L ++ [(kr, vr)], by omega, by go_num, by simp, HO4.out, by rw [cntN_miss HE.out, ← HLC.out]; simp, by rw [hasL_snoc, HLH.out, HKR.out, HE.out]; rfl, hb4⟩, by simp [intOf] <;> omega⟩
                · obtain rfl : x = r := by omega
                  have HW : Hid (WH = (LF || RT)) := by
                    have := hasN_split K key i (x - i)
                    rw [show i + (x - i) = x by omega] at this
                    rw [Hid, HWH.out, HLF.out, HRT.out]; exact this
                  have HCC : Hid ((WH = true → ct < x) ∧ (WH = false → x ≤ ct)) := by
                    rw [HWH.out, HCT.out]; exact cntN_has K key x
                  have cL := HO.out.has key (by omega)
                  rw [HLH.out] at cL
                  clear HWH HLF HRT HCT
                  cases LF <;> cases RT
                  · obtain rfl : WH = false := by simpa using HW.out
                    have hcc : x ≤ ct := HCC.out.2 rfl
                    go_wp2_with fail
                    refine cL.mono ?_
                    clear cL
                    rintro e w7 ⟨rfl, hb9⟩
                    have hB7 : Below wk.heap.size wk w7 := hBk.trans (hb9.mono hBk.size)
                    go_wp2
                    go_ret
                    exact ⟨ret_b (a := !decide (ct < x)) (b := true) (by simp; omega), hbw.trans (hB7.mono hbw.size)⟩
                  all_goals (
                    obtain rfl : WH = true := by simpa using HW.out
                    have hcc : ct < x := HCC.out.1 rfl
                    go_wp2_with fail
                    refine cL.mono ?_
                    clear cL
                    rintro e w7 ⟨rfl, hb9⟩
                    have hB7 : Below wk.heap.size wk w7 := hBk.trans (hb9.mono hBk.size)
                    go_wp2
                    go_ret
                    exact ⟨rfl, hbw.trans (hB7.mono hbw.size)⟩)
end Go.Proofs.Qxb6621717a
