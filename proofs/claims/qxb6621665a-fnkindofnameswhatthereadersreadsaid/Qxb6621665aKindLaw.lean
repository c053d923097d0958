/-
  FnKindOfNamesWhatTheReadersRead: the walk, the row.
-/
import Derived.Test.Qxb6621665aScalar
namespace Go.Proofs.Qxb6621665a
open Go.ChangeShapes Go.WideShapes Go.ChangeAt Go.RowKit
open Go.ChangeMaps (open_string shut_string)

/-! ### The plain law, byte by byte -/
def nB (c : Int) : Bool := decide (0 < Pl.endAt 0 (Pl.aut 0 (([c, 49] : List Int).drop 0)))
def tB (c : Int) : Bool := decide (0 < scalF [c, 114, 117, 101] 0 2)
def fB (c : Int) : Bool := decide (0 < scalF [c, 97, 108, 115, 101] 0 2)
def uB (c : Int) : Bool := decide (0 < scalF [c, 117, 108, 108] 0 1)
theorem all_bytes {p : Int → Bool} (h : ∀ n : Fin 256, p (n.val : Int) = true) {c : Int} (h0 : 0 ≤ c) (h1 : c ≤ 255) : p c = true := by
  obtain ⟨n, rfl⟩ := Int.eq_ofNat_of_zero_le h0
  exact h ⟨n, by omega⟩
theorem plain_num {c : Int} (h0 : 0 ≤ c) (h1 : c ≤ 255) : (kindF c == 3) = nB c :=
  beq_iff_eq.1 (all_bytes (p := fun c => (kindF c == 3) == nB c) (by decide +kernel) h0 h1)
theorem plain_bool {c : Int} (h0 : 0 ≤ c) (h1 : c ≤ 255) : (kindF c == 2) = (tB c || fB c) :=
  beq_iff_eq.1 (all_bytes (p := fun c => (kindF c == 2) == (tB c || fB c)) (by decide +kernel) h0 h1)
theorem plain_null {c : Int} (h0 : 0 ≤ c) (h1 : c ≤ 255) : (kindF c == 1) = uB c :=
  beq_iff_eq.1 (all_bytes (p := fun c => (kindF c == 1) == uB c) (by decide +kernel) h0 h1)
theorem plain_str {c : Int} (h0 : 0 ≤ c) (h1 : c ≤ 255) : (kindF c == 4) = (c == 34) :=
  beq_iff_eq.1 (all_bytes (p := fun c => (kindF c == 4) == (c == 34)) (by decide +kernel) h0 h1)
theorem plain_arr {c : Int} (h0 : 0 ≤ c) (h1 : c ≤ 255) : (kindF c == 5) = (c == 91) :=
  beq_iff_eq.1 (all_bytes (p := fun c => (kindF c == 5) == (c == 91)) (by decide +kernel) h0 h1)
theorem plain_obj {c : Int} (h0 : 0 ≤ c) (h1 : c ≤ 255) : (kindF c == 6) = (c == 123) :=
  beq_iff_eq.1 (all_bytes (p := fun c => (kindF c == 6) == (c == 123)) (by decide +kernel) h0 h1)

/-- How many of the first b bytes are of kind K. -/
def cnt (K : Int) : Nat → Nat
  | 0 => 0
  | b + 1 => cnt K b + if kindF (b : Int) = K then 1 else 0
theorem cnt_le (K : Int) : ∀ b, cnt K b ≤ b
  | 0 => Nat.le_refl _
  | b + 1 => by have := cnt_le K b; unfold cnt; split <;> omega
theorem cnt_hit {K : Int} {b : Nat} (h : kindF (b : Int) = K) : cnt K (b + 1) = cnt K b + 1 := by rw [cnt, if_pos h]
theorem cnt_miss {K : Int} {b : Nat} (h : kindF (b : Int) ≠ K) : cnt K (b + 1) = cnt K b := by rw [cnt, if_neg h]; rfl
theorem cnt_all : cnt 0 256 = 239 ∧ cnt 1 256 = 1 ∧ cnt 2 256 = 2 ∧ cnt 3 256 = 11 ∧ cnt 4 256 = 1 ∧ cnt 5 256 = 1 ∧ cnt 6 256 = 1 := by decide +kernel
theorem kindF_range (c : Int) : 0 ≤ kindF c ∧ kindF c ≤ 6 := by unfold kindF; repeat' split
                                                                all_goals omega

set_option maxHeartbeats 400000 in
theorem zzKindOf_any (c : Int) (w : World) (h0 : 0 ≤ c) (h1 : c ≤ 255) :
    Calls Try.prog 9 #[.int .u8 c] w fun e w' => e = .returned (.int .u8 (kindF c)) ∧ w' = w := by
  go_enter Try.func9, Try.ntmps9
  go_wp2_with fail
  refine (kindOf_any c _ h0 h1).mono ?_
  rintro e w2 ⟨rfl, hw2⟩
  rw [hw2]
  clear hw2 w2
  go_wp2
  go_ret
  exact ⟨rfl, rfl⟩

/-- A literal slice of bytes, just laid. -/
theorem text_two (c d : Int) (w : World) : Text w.heap.size 0 2 [c, d] (w.alloc (.cells #[.int .u8 c, .int .u8 d] 5)) :=
  ⟨rfl, by omega, fun j hj => by match j, hj with
    | 0, _ => simp
    | 1, _ => simp⟩
theorem text_four (B : Nat) (c d e f : Int) (w : World) (hB : B = w.heap.size) : Text B 0 4 [c, d, e, f] (w.alloc (.cells #[.int .u8 c, .int .u8 d, .int .u8 e, .int .u8 f] 5)) := by
  subst hB
  exact ⟨rfl, by omega, fun j hj => by match j, hj with
    | 0, _ => simp
    | 1, _ => simp
    | 2, _ => simp
    | 3, _ => simp⟩
theorem text_five (B : Nat) (c d e f g : Int) (w : World) (hB : B = w.heap.size) : Text B 0 5 [c, d, e, f, g] (w.alloc (.cells #[.int .u8 c, .int .u8 d, .int .u8 e, .int .u8 f, .int .u8 g] 5)) := by
  subst hB
  exact ⟨rfl, by omega, fun j hj => by match j, hj with
    | 0, _ => simp
    | 1, _ => simp
    | 2, _ => simp
    | 3, _ => simp
    | 4, _ => simp⟩
theorem byt_of {zs : List Int} (h : ∀ z ∈ zs, 0 ≤ z ∧ z ≤ 255) : Byt zs := by
  intro j
  by_cases hj : j < zs.length
  · have e : zs.getD j 0 = zs[j] := by simp [List.getD, List.getElem?_eq_getElem hj]
    rw [e]; exact h _ (List.getElem_mem hj)
  · have e : zs.getD j 0 = 0 := by simp [List.getD, List.getElem?_eq_none (show zs.length ≤ j by omega)]
    rw [e]; omega

theorem zzScalar_zero (b n : Nat) (zs : List Int) (kd : Int) (R : Nat) (w : World) (h : Text b 0 n zs w) (hbw : b < w.heap.size) (hby : Byt zs) (hi : 0 < n) (hR : scalF zs 0 kd = R) :
    Calls Try.prog 10 #[.slice (some ⟨b, 0, none⟩) n n, .int .i64 0, .int .u8 kd] w fun e w' => e = .returned (.int .i64 (R : Nat)) ∧ Below w.heap.size w w' := by
  subst hR
  exact zzScalar_any b 0 n n zs 0 kd w h hbw (Nat.le_refl _) hby hi

theorem seven {s : Int} (h0 : 0 ≤ s) (h1 : s ≤ 6) : s = 0 ∨ s = 1 ∨ s = 2 ∨ s = 3 ∨ s = 4 ∨ s = 5 ∨ s = 6 := by omega

set_option maxHeartbeats 2000000 in
set_option maxRecDepth 10000 in
theorem kind_walk (c : Int) (w : World) (h0 : 0 ≤ c) (h1 : c ≤ 255) :
    Calls Try.prog 4 #[.int .u8 c] w fun e w' => e = .returned (.bool true) ∧ Below w.heap.size w w' := by
  obtain ⟨K, hK⟩ : ∃ K, K = kindF c := ⟨_, rfl⟩
  obtain ⟨N, hN⟩ : ∃ N, N = nB c := ⟨_, rfl⟩
  obtain ⟨T, hT⟩ : ∃ T, T = tB c := ⟨_, rfl⟩
  obtain ⟨F, hF⟩ : ∃ F, F = fB c := ⟨_, rfl⟩
  obtain ⟨U, hU⟩ : ∃ U, U = uB c := ⟨_, rfl⟩
  have k3 : (K == 3) = N := by rw [hK, hN]; exact plain_num h0 h1
  have k2 : (K == 2) = (T || F) := by rw [hK, hT, hF]; exact plain_bool h0 h1
  have k1 : (K == 1) = U := by rw [hK, hU]; exact plain_null h0 h1
  have k4 : (K == 4) = (c == 34) := by rw [hK]; exact plain_str h0 h1
  have k5 : (K == 5) = (c == 91) := by rw [hK]; exact plain_arr h0 h1
  have k6 : (K == 6) = (c == 123) := by rw [hK]; exact plain_obj h0 h1
  obtain ⟨R1, hR1⟩ : ∃ R1, Pl.endAt 0 (Pl.aut 0 (([c, 49] : List Int).drop 0)) = R1 := ⟨_, rfl⟩
  obtain ⟨R2, hR2⟩ : ∃ R2, scalF [c, 114, 117, 101] 0 2 = R2 := ⟨_, rfl⟩
  obtain ⟨R3, hR3⟩ : ∃ R3, scalF [c, 97, 108, 115, 101] 0 2 = R3 := ⟨_, rfl⟩
  obtain ⟨R4, hR4⟩ : ∃ R4, scalF [c, 117, 108, 108] 0 1 = R4 := ⟨_, rfl⟩
  have d1 : decide (0 < R1) = N := by rw [hN, ← hR1]; rfl
  have d2 : decide (0 < R2) = T := by rw [hT, ← hR2]; rfl
  have d3 : decide (0 < R3) = F := by rw [hF, ← hR3]; rfl
  have d4 : decide (0 < R4) = U := by rw [hU, ← hR4]; rfl
  have HK := (show Hid _ from hK)
  have HR1 := (show Hid _ from hR1)
  have HR2 := (show Hid _ from hR2)
  have HR3 := (show Hid _ from hR3)
  have HR4 := (show Hid _ from hR4)
  clear hK hN hT hF hU hR1 hR2 hR3 hR4
  have HP := (show Hid _ from And.intro k3 (And.intro k2 (And.intro k1 (And.intro k4 (And.intro k5 k6)))))
  clear k1 k2 k3 k4 k5 k6
  have HB2 : Hid (Byt [c, 114, 117, 101]) := byt_of (by intro z hz; simp at hz; omega)
  have HB3 : Hid (Byt [c, 97, 108, 115, 101]) := byt_of (by intro z hz; simp at hz; omega)
  have HB4 : Hid (Byt [c, 117, 108, 108]) := byt_of (by intro z hz; simp at hz; omega)
  go_enter Try.func4, Try.ntmps4
  go_wp2_with fail
  refine (zzKindOf_any c _ h0 h1).mono ?_
  rintro e w2 ⟨rfl, hw2⟩
  rw [hw2, ← HK.out]
  clear hw2 w2
  go_wp2_with fail
  refine (zzNumber_any _ _ _ _ [c, 49] _ 0 R1 _ (text_two c 49 w) rfl (by omega) HR1.out).mono ?_
  rintro e w2 ⟨rfl, hw2⟩
  rw [hw2]
  clear hw2 w2
  go_wp2_with fail
  refine (zzScalar_zero (w.heap.size + 1) 4 [c, 114, 117, 101] 2 R2 _ (text_four _ c 114 117 101 _ (by simp)) (by simp) HB2.out (by omega) HR2.out).mono ?_
  rintro e w2 ⟨rfl, hb2⟩
  have hb2' : Below w.heap.size w w2 := (((Below.refl _ _).alloc (Nat.le_refl _) _).alloc (by simp) _).trans (hb2.mono (by simp; omega))
  have hsz2 := hb2'.size
  clear hb2
  go_wp2_with fail
  refine (zzScalar_zero w2.heap.size 5 [c, 97, 108, 115, 101] 2 R3 _ (text_five _ c 97 108 115 101 _ rfl) (by simp) HB3.out (by omega) HR3.out).mono ?_
  rintro e w3 ⟨rfl, hb3⟩
  have hb3' : Below w.heap.size w w3 := (hb2'.alloc hsz2 _).trans (hb3.mono (by simp; omega))
  have hsz3 := hb3'.size
  clear hb3 hb2' hsz2
  go_wp2_with fail
  refine (zzScalar_zero w3.heap.size 4 [c, 117, 108, 108] 1 R4 _ (text_four _ c 117 108 108 _ rfl) (by simp) HB4.out (by omega) HR4.out).mono ?_
  rintro e w4 ⟨rfl, hb4⟩
  have hb4' : Below w.heap.size w w4 := (hb3'.alloc hsz3 _).trans (hb4.mono (by simp; omega))
  clear hb4 hb3' hsz3
  obtain ⟨k3, k2, k1, k4, k5, k6⟩ := HP.out
  cases T
  all_goals
    go_wp2
    clear k1 k2 k3 k4 k5 k6 d1 d2 d3 d4 HP HR1 HR2 HR3 HR4 HB2 HB3 HB4 HK
    go_loop [8, 9, 10, 11, 12, 13, 14, 15] (fun a0 a1 a2 a3 a4 a5 a6 i => ∃ q : Nat, q ≤ 256 ∧ i = .int .i64 q ∧ a0 = .int .i64 (cnt 0 q : Nat) ∧ a1 = .int .i64 (cnt 1 q : Nat) ∧ a2 = .int .i64 (cnt 2 q : Nat) ∧ a3 = .int .i64 (cnt 3 q : Nat) ∧ a4 = .int .i64 (cnt 4 q : Nat) ∧ a5 = .int .i64 (cnt 5 q : Nat) ∧ a6 = .int .i64 (cnt 6 q : Nat))
      (fun _ _ _ _ _ _ _ i => 256 - (intOf i).toNat)
    case atStart => exact ⟨0, by omega, rfl, rfl, rfl, rfl, rfl, rfl, rfl, rfl⟩
    case round =>
      obtain ⟨q, hq, rfl, rfl, rfl, rfl, rfl, rfl, rfl, rfl⟩ := hrel
      have l0 := cnt_le 0 q
      have l1 := cnt_le 1 q
      have l2 := cnt_le 2 q
      have l3 := cnt_le 3 q
      have l4 := cnt_le 4 q
      have l5 := cnt_le 5 q
      have l6 := cnt_le 6 q
      by_cases hlt : q < 256
      · have hr := kindF_range (q : Int)
        rcases seven hr.1 hr.2 with hkq | hkq | hkq | hkq | hkq | hkq | hkq
        · have HQ : Hid (kindF (q : Int) = 0) := hkq
          have HX : Hid (cnt 0 (q + 1) = cnt 0 q + 1) := cnt_hit hkq
          have HY : Hid (∀ K' : Int, K' ≠ 0 → cnt K' (q + 1) = cnt K' q) := fun K' h => cnt_miss (by rw [hkq]; exact fun e => h e.symm)
          clear hkq
          go_wp2_with fail
          refine (zzKindOf_any (q : Int) _ (by omega) (by omega)).mono ?_
          rintro e w5 ⟨rfl, hw5⟩
          rw [hw5, HQ.out]
          clear hw5 w5
          go_wp2
          go_round
          case rel => exact ⟨q + 1, by omega, by go_num, by rw [HX.out]; go_num, by rw [HY.out 1 (by decide)], by rw [HY.out 2 (by decide)], by rw [HY.out 3 (by decide)], by rw [HY.out 4 (by decide)], by rw [HY.out 5 (by decide)], by rw [HY.out 6 (by decide)]⟩
          case measure => simp [intOf]; omega
        · have HQ : Hid (kindF (q : Int) = 1) := hkq
          have HX : Hid (cnt 1 (q + 1) = cnt 1 q + 1) := cnt_hit hkq
          have HY : Hid (∀ K' : Int, K' ≠ 1 → cnt K' (q + 1) = cnt K' q) := fun K' h => cnt_miss (by rw [hkq]; exact fun e => h e.symm)
          clear hkq
          go_wp2_with fail
          refine (zzKindOf_any (q : Int) _ (by omega) (by omega)).mono ?_
          rintro e w5 ⟨rfl, hw5⟩
          rw [hw5, HQ.out]
          clear hw5 w5
          go_wp2
          go_round
          case rel => exact ⟨q + 1, by omega, by go_num, by rw [HY.out 0 (by decide)], by rw [HX.out]; go_num, by rw [HY.out 2 (by decide)], by rw [HY.out 3 (by decide)], by rw [HY.out 4 (by decide)], by rw [HY.out 5 (by decide)], by rw [HY.out 6 (by decide)]⟩
          case measure => simp [intOf]; omega
        · have HQ : Hid (kindF (q : Int) = 2) := hkq
          have HX : Hid (cnt 2 (q + 1) = cnt 2 q + 1) := cnt_hit hkq
          have HY : Hid (∀ K' : Int, K' ≠ 2 → cnt K' (q + 1) = cnt K' q) := fun K' h => cnt_miss (by rw [hkq]; exact fun e => h e.symm)
          clear hkq
          go_wp2_with fail
          refine (zzKindOf_any (q : Int) _ (by omega) (by omega)).mono ?_
          rintro e w5 ⟨rfl, hw5⟩
          rw [hw5, HQ.out]
          clear hw5 w5
          go_wp2
          go_round
          case rel => exact ⟨q + 1, by omega, by go_num, by rw [HY.out 0 (by decide)], by rw [HY.out 1 (by decide)], by rw [HX.out]; go_num, by rw [HY.out 3 (by decide)], by rw [HY.out 4 (by decide)], by rw [HY.out 5 (by decide)], by rw [HY.out 6 (by decide)]⟩
          case measure => simp [intOf]; omega
        · have HQ : Hid (kindF (q : Int) = 3) := hkq
          have HX : Hid (cnt 3 (q + 1) = cnt 3 q + 1) := cnt_hit hkq
          have HY : Hid (∀ K' : Int, K' ≠ 3 → cnt K' (q + 1) = cnt K' q) := fun K' h => cnt_miss (by rw [hkq]; exact fun e => h e.symm)
          clear hkq
          go_wp2_with fail
          refine (zzKindOf_any (q : Int) _ (by omega) (by omega)).mono ?_
          rintro e w5 ⟨rfl, hw5⟩
          rw [hw5, HQ.out]
          clear hw5 w5
          go_wp2
          go_round
          case rel => exact ⟨q + 1, by omega, by go_num, by rw [HY.out 0 (by decide)], by rw [HY.out 1 (by decide)], by rw [HY.out 2 (by decide)], by rw [HX.out]; go_num, by rw [HY.out 4 (by decide)], by rw [HY.out 5 (by decide)], by rw [HY.out 6 (by decide)]⟩
          case measure => simp [intOf]; omega
        · have HQ : Hid (kindF (q : Int) = 4) := hkq
          have HX : Hid (cnt 4 (q + 1) = cnt 4 q + 1) := cnt_hit hkq
          have HY : Hid (∀ K' : Int, K' ≠ 4 → cnt K' (q + 1) = cnt K' q) := fun K' h => cnt_miss (by rw [hkq]; exact fun e => h e.symm)
          clear hkq
          go_wp2_with fail
          refine (zzKindOf_any (q : Int) _ (by omega) (by omega)).mono ?_
          rintro e w5 ⟨rfl, hw5⟩
          rw [hw5, HQ.out]
          clear hw5 w5
          go_wp2
          go_round
          case rel => exact ⟨q + 1, by omega, by go_num, by rw [HY.out 0 (by decide)], by rw [HY.out 1 (by decide)], by rw [HY.out 2 (by decide)], by rw [HY.out 3 (by decide)], by rw [HX.out]; go_num, by rw [HY.out 5 (by decide)], by rw [HY.out 6 (by decide)]⟩
          case measure => simp [intOf]; omega
        · have HQ : Hid (kindF (q : Int) = 5) := hkq
          have HX : Hid (cnt 5 (q + 1) = cnt 5 q + 1) := cnt_hit hkq
          have HY : Hid (∀ K' : Int, K' ≠ 5 → cnt K' (q + 1) = cnt K' q) := fun K' h => cnt_miss (by rw [hkq]; exact fun e => h e.symm)
          clear hkq
          go_wp2_with fail
          refine (zzKindOf_any (q : Int) _ (by omega) (by omega)).mono ?_
          rintro e w5 ⟨rfl, hw5⟩
          rw [hw5, HQ.out]
          clear hw5 w5
          go_wp2
          go_round
          case rel => exact ⟨q + 1, by omega, by go_num, by rw [HY.out 0 (by decide)], by rw [HY.out 1 (by decide)], by rw [HY.out 2 (by decide)], by rw [HY.out 3 (by decide)], by rw [HY.out 4 (by decide)], by rw [HX.out]; go_num, by rw [HY.out 6 (by decide)]⟩
          case measure => simp [intOf]; omega
        · have HQ : Hid (kindF (q : Int) = 6) := hkq
          have HX : Hid (cnt 6 (q + 1) = cnt 6 q + 1) := cnt_hit hkq
          have HY : Hid (∀ K' : Int, K' ≠ 6 → cnt K' (q + 1) = cnt K' q) := fun K' h => cnt_miss (by rw [hkq]; exact fun e => h e.symm)
          clear hkq
          go_wp2_with fail
          refine (zzKindOf_any (q : Int) _ (by omega) (by omega)).mono ?_
          rintro e w5 ⟨rfl, hw5⟩
          rw [hw5, HQ.out]
          clear hw5 w5
          go_wp2
          go_round
          case rel => exact ⟨q + 1, by omega, by go_num, by rw [HY.out 0 (by decide)], by rw [HY.out 1 (by decide)], by rw [HY.out 2 (by decide)], by rw [HY.out 3 (by decide)], by rw [HY.out 4 (by decide)], by rw [HY.out 5 (by decide)], by rw [HX.out]; go_num⟩
          case measure => simp [intOf]; omega
      · obtain rfl : q = 256 := by omega
        obtain ⟨c0, c1, c2, c3, c4, c5, c6⟩ := cnt_all
        clear l0 l1 l2 l3 l4 l5 l6
        go_wp2
        go_ret
        exact ⟨rfl, hb4'⟩

theorem kind_any (c : Int) (w0 : (Lit.int .u8 c).wf = true) (w : World) :
    Calls Try.prog 4 #[.int .u8 c] w fun e w' => e = .returned (.bool true) ∧ Below w.heap.size w w' :=
  kind_walk c w (bounds_u8 w0).1 (bounds_u8 w0).2

set_option maxRecDepth 100000 in
theorem kind_lifted (os : Os) (started : os.Started) (H : Type) (enc : TypeId × Value → H) :
    ReturnsInHanded {} Try.checked os 4 .any (Rows.fnKindOfNamesWhatTheReadersReadSpec.pre6 enc Try.prog Try.f4 Rows.fnKindOfNamesWhatTheReadersReadRow.domain false) (Rows.fnKindOfNamesWhatTheReadersReadSpec.post enc Try.prog Try.f4 false true false false) := by
  refine returnsInHanded_of_change (C := Try.checked) own started (by kernel_rfl) Try.func4
    (ChangeSpec.witness6 (enc := enc) (C := Try.checked) false ⟨#[], #[.int .u8 0], []⟩ 8 (by kernel_rfl) (by kernel_rfl) (by kernel_rfl) (by kernel_rfl)) ?_
  intro W base args ds gs before hval0 hW hcnd _
  have hval : ∀ (j : Nat) t v, Try.f4.params[j]? = some t → args[j]? = some v → Value.okWide Try.prog W .any base t v := hval0
  have hW' := hW
  obtain ⟨p, q, hA0, hV, rfl, hfz, hnd⟩ := hW
  have hA : DataW.TrodAll enc Try.prog W 0 (fun _ => true) true Try.f4.params.toList args.toList ds p := hA0
  rw [Try.params4] at hA hval
  obtain ⟨v0, vs0, d0, ds0, p0, q0, hargs, rfl, rfl, h0, r0⟩ := trodAll_cons hA
  obtain ⟨rfl, rfl, rfl⟩ := trodAll_nil r0
  obtain rfl : args = #[v0] := by cases args; simp_all
  obtain ⟨rfl, rfl⟩ := trodVars_none hV
  obtain ⟨a0, rfl, rfl, rfl, w0⟩ := open_int Try.underlying5 (hval 0 5 v0 rfl rfl) h0
  clear hA0 hval0
  refine (kind_any a0 w0 W).mono fun e W' ⟨he, bel⟩ => ?_
  subst he
  exact ⟨_, rfl, _, _, _, [], [], [], hW', trodAll_mk1 (shut_bool Try.underlying4 _), trodAll_mk1 (shut_int Try.underlying5 w0), rfl, bel.frame _, fun h => by cases h⟩

theorem kind_over : Rows.fnKindOfNamesWhatTheReadersReadRow.holds Try.pinned (OpenSpec.ofChange Rows.fnKindOfNamesWhatTheReadersReadSpec) :=
  OpenClaim.holds_of_wide 4 Try.f4 rfl rfl rfl rfl rfl rfl rfl ⟨rfl, rfl, rfl, rfl, rfl⟩ rfl rfl rfl rfl rfl (by kernel_rfl) Try.func4 (by kernel_rfl)
    (of_decide_eq_true (by kernel_rfl)) (by unfold Func.isWrapper; first | (rw [if_pos (by decide +kernel)]; kernel_rfl) | (rw [if_neg (by decide +kernel)]; exact ⟨rfl, rfl⟩))
    (fun os started H enc _ => kind_lifted os started H enc)


/-- The statement. -/
theorem kind_names : Rows.FnKindOfNamesWhatTheReadersReadSaid := kind_over
end Go.Proofs.Qxb6621665a
