import Derived.Test.Qxb6620856aDoorRows
import Derived.Test.Qxb6620856aDoorPlain
import Derived.WalkKit
import Derived.ProofKit
import Derived.Below
import Derived.Laws.IdiomStrings
import Derived.Lib.ItoaMem
namespace Go.Proofs.Qxb6620856aDoor
open Go.ChangeShapes Go.WideShapes Go.ChangeAt Go.RowKit

/-- Block B is the call's own array of 24 bytes; its last bytes are ds. -/
def Dig (B : Nat) (ds : List UInt8) (w : World) : Prop :=
  ∃ cs : Array Value, w.heap[B]? = some (.cells cs 44 (0, 0)) ∧ cs.size = 24 ∧ ds.length ≤ 24 ∧ ∀ j (hj : j < ds.length), cs[24 - ds.length + j]? = some (.int .u8 (ds[j].toNat : Int))

theorem Dig.frozen {B : Nat} {ds : List UInt8} {w : World} (h : Dig B ds w) (j : Nat) : w.frozen? ⟨B, j, none⟩ = false := by
  obtain ⟨cs, hb, _⟩ := h
  simp [World.frozen?, hb]
theorem Dig.some_cell {B : Nat} {ds : List UInt8} {w : World} (h : Dig B ds w) (j : Nat) (hj : j < 24) : ∃ v, w.cell? ⟨B, j, none⟩ = some v := by
  obtain ⟨cs, hb, hs, _⟩ := h
  exact ⟨cs[j]'(by omega), by simp [World.cell?, hb]⟩
theorem Dig.lt {B : Nat} {ds : List UInt8} {w : World} (h : Dig B ds w) : B < w.heap.size := by
  obtain ⟨cs, hb, _⟩ := h
  exact lt_of_block hb
theorem Dig.cell {B : Nat} {ds : List UInt8} {w : World} (h : Dig B ds w) (j : Nat) (hj : j < ds.length) : w.cell? ⟨B, 24 - ds.length + j, none⟩ = some (.int .u8 (ds[j].toNat : Int)) := by
  obtain ⟨cs, hb, hs, hl, hc⟩ := h
  simp [World.cell?, hb, hc j hj]
theorem Dig.store {B : Nat} {ds : List UInt8} {w : World} (h : Dig B ds w) (hl : ds.length < 24) (c : UInt8) : Dig B (c :: ds) (w.setCell ⟨B, 24 - ds.length - 1, none⟩ (.int .u8 (c.toNat : Int))) := by
  obtain ⟨cs, hb, hs, _, hc⟩ := h
  refine ⟨cs.setIfInBounds (24 - ds.length - 1) (.int .u8 (c.toNat : Int)), ?_, by simpa using hs, by simp; omega, ?_⟩
  · simp [World.setCell, Array.getElem?_modify, hb]
  · intro j hj
    simp only [List.length_cons] at hj ⊢
    rw [Array.getElem?_setIfInBounds]
    match j, hj with
    | 0, _ => rw [if_pos (by omega), if_pos (by omega)]; rfl
    | j + 1, hj =>
      rw [if_neg (by omega), show 24 - (ds.length + 1) + (j + 1) = 24 - ds.length + j by omega, hc j (by omega)]
      rfl

theorem dig_new (w : World) : Dig w.heap.size [] (w.alloc (.cells #[.int .u8 0, .int .u8 0, .int .u8 0, .int .u8 0, .int .u8 0, .int .u8 0, .int .u8 0, .int .u8 0, .int .u8 0, .int .u8 0, .int .u8 0, .int .u8 0, .int .u8 0, .int .u8 0, .int .u8 0, .int .u8 0, .int .u8 0, .int .u8 0, .int .u8 0, .int .u8 0, .int .u8 0, .int .u8 0, .int .u8 0, .int .u8 0] 44)) := by
  refine ⟨_, heap_alloc_new _ _, rfl, by simp, fun j hj => absurd hj (by simp)⟩

/-- The digits that are left of u: none of 0. -/
def decRest (u : Nat) : List UInt8 := if u = 0 then [] else Lib.decDigits u
theorem decRest_pos {u : Nat} (h : 0 < u) : decRest u = Lib.decDigits u := by unfold decRest; rw [if_neg (by omega)]
theorem decRest_step {u : Nat} (h : 0 < u) : decRest u = decRest (u / 10) ++ [UInt8.ofNat (48 + u % 10)] := by
  rw [decRest_pos h]
  by_cases h10 : u < 10
  · rw [Lib.decDigits_one h10]
    unfold decRest
    rw [if_pos (by omega), Nat.mod_eq_of_lt h10]
    rfl
  · rw [Lib.decDigits, dif_neg h10, decRest_pos (by omega)]
theorem decRest_length (u : Nat) (h : u < 18446744073709551616) : (decRest u).length ≤ 20 := by
  unfold decRest
  split
  · simp
  · rw [Lib.decDigits_length]; exact Lib.nDigits_le20 u h
theorem rest_room {u u0 : Nat} {ds : List UInt8} (e : decRest u ++ ds = Lib.decDigits u0) (h0 : u0 < 18446744073709551616) (hu : 0 < u) : ds.length < 20 := by
  have h1 := congrArg List.length e
  rw [List.length_append, Lib.decDigits_length] at h1
  have h2 := Lib.nDigits_le20 u0 h0
  have h3 : (decRest u).length ≠ 0 := by rw [decRest_pos hu, Lib.decDigits_length]; have := Lib.nDigits_pos u; omega
  omega
theorem rest_step {u u0 : Nat} {ds : List UInt8} (e : decRest u ++ ds = Lib.decDigits u0) (hu : 0 < u) : decRest (u / 10) ++ UInt8.ofNat (48 + u % 10) :: ds = Lib.decDigits u0 := by
  rw [decRest_step hu, List.append_assoc] at e
  exact e
theorem byte_digit (u : Nat) : ((UInt8.ofNat (48 + u % 10)).toNat : Int) = 48 + (u : Int) % 10 := by
  rw [UInt8.toNat_ofNat']
  omega

theorem ret_str {l l' : List UInt8} (h : l = l') : Ending.returned (.string ⟨l.toArray⟩) = .returned (.string ⟨l'.toArray⟩) := by rw [h]

theorem arr44 : Tryd.prog.arrayLen 44 = 24 := by kernel_rfl
theorem elem44 : Tryd.prog.elem 44 = 5 := by kernel_rfl
theorem under44 : Tryd.prog.underlying 44 = some (.array (Tryd.prog.arrayLen 44) (Tryd.prog.elem 44)) := by kernel_rfl
theorem size5 (w : World) : (sizeOf 5).run Tryd.prog w = .ok 1 w := by kernel_rfl
/-- 'buf[i:]' at the call's own array of 24 bytes. -/
theorem slice24 (B m : Nat) (h0 : 0 < m) (h1 : m ≤ 24) (wr : World) :
    (Instr.sliceAt 44 (.pointer (some ⟨B, 0, none⟩)) (some (.int .i64 (24 - (m : Int)))) none none).run Tryd.prog wr = .ok (.slice (some ⟨B, 24 - m, none⟩) m m) wr := by
  rw [run_sliceAt_array_l wr 44 ⟨B, 0, none⟩ under44 .i64 (24 - (m : Int)) (by omega) (by rw [arr44]; omega), elem44, size5, arr44]
  simp only [Result.andThen, slicedAt, Nat.mul_one]
  have e : (24 - (m : Int)).toNat = 24 - m := by omega
  rw [e, if_neg (by omega), Lib.add_plain]
  simp only [Nat.zero_add]
  rw [show 24 - (24 - m) = m by omega]

set_option maxHeartbeats 400000 in
set_option maxRecDepth 10000 in
theorem zzItoa_pos (n : Int) (w : World) (h0 : 0 < n) (h1 : n ≤ 9223372036854775807) :
    Calls Tryd.prog 21 #[.int .i64 n] w fun e w' => e = .returned (.string ⟨(Lib.itoa n).toArray⟩) ∧ Below w.heap.size w w' := by
  obtain ⟨u0, rfl⟩ := Int.eq_ofNat_of_zero_le (by omega : 0 ≤ n)
  have hn : ((u0 : Int) == 0) = false := beq_eq_false_iff_ne.2 (by omega)
  have hn2 : decide ((u0 : Int) < 0) = false := decide_eq_false (by omega)
  go_enter Tryd.func21, Tryd.ntmps21
  go_wp2
  go_loopw [4, 6] (fun u i wr => ∃ (v : Nat) (ds : List UInt8), u = .int .u64 v ∧ v ≤ u0 ∧ i = .int .i64 (24 - (ds.length : Int)) ∧ decRest v ++ ds = Lib.decDigits u0 ∧ Dig w.heap.size ds wr ∧ Below w.heap.size w wr)
    (fun u _ _ => (intOf u).toNat)
  case atStart => exact ⟨u0, [], rfl, Nat.le_refl _, rfl, by rw [List.append_nil, decRest_pos (by omega)], dig_new _, (Below.refl _ _).alloc (Nat.le_refl _) _⟩
  case round =>
    obtain ⟨v, ds, rfl, hv, rfl, he, hd, hb⟩ := hrel
    have hl : ds.length ≤ 24 := by obtain ⟨_, _, _, h, _⟩ := hd; exact h
    have HE : Hid (decRest v ++ ds = Lib.decDigits u0) := he
    clear he
    by_cases hpos : 0 < v
    · have hr := rest_room HE.out (by omega) hpos
      have hfr := hd.frozen
      obtain ⟨old, hold⟩ := hd.some_cell (24 - ds.length - 1) (by omega)
      go_wp2
      go_roundw
      case rel =>
        refine ⟨v / 10, UInt8.ofNat (48 + v % 10) :: ds, by go_num, by omega, by simp only [List.length_cons]; go_num, rest_step HE.out hpos, ?_, hb.setCell (Nat.le_refl _) _⟩
        rw [← byte_digit v]
        exact hd.store (by omega) _
      case measure => simp [intOf]; omega
    · have hds : ds = Lib.decDigits u0 := by have := HE.out; rw [show v = 0 by omega] at this; simpa [decRest] using this
      have hl20 : ds.length ≤ 20 := by rw [hds, Lib.decDigits_length]; exact Lib.nDigits_le20 _ (by omega)
      have HD : Hid (ds = Lib.decDigits u0) := hds
      clear hds
      have hcell := hd.cell
      have hconv := run_convert_bytes_back (P := Tryd.prog) wr 26 9 5 ⟨w.heap.size, 24 - ds.length, none⟩ ds.length ds Tryd.underlying26 Tryd.underlying5 Tryd.underlying9 (fun j hj => by rw [Lib.add_plain]; exact hcell j hj)
      have hdl : 0 < ds.length := by rw [HD.out, Lib.decDigits_length]; exact Lib.nDigits_pos _
      have hsl := slice24 w.heap.size ds.length hdl hl wr
      clear hcell hd
      go_wp2
      go_ret
      exact ⟨ret_str (by rw [HD.out, Lib.itoa_nonneg]), hb⟩

theorem slice24' (B m : Nat) (z : Int) (hz : z = 24 - (m : Int)) (h0 : 0 < m) (h1 : m ≤ 24) (wr : World) :
    (Instr.sliceAt 44 (.pointer (some ⟨B, 0, none⟩)) (some (.int .i64 z)) none none).run Tryd.prog wr = .ok (.slice (some ⟨B, 24 - m, none⟩) m m) wr := by
  rw [hz]; exact slice24 B m h0 h1 wr

set_option maxHeartbeats 400000 in
set_option maxRecDepth 10000 in
theorem zzItoa_neg (u0 : Nat) (w : World) (h0 : 0 < u0) (h1 : u0 ≤ 9223372036854775808) :
    Calls Tryd.prog 21 #[.int .i64 (-(u0 : Int))] w fun e w' => e = .returned (.string ⟨(Lib.itoa (-(u0 : Int))).toArray⟩) ∧ Below w.heap.size w w' := by
  have hn : (-(u0 : Int) == 0) = false := beq_eq_false_iff_ne.2 (by omega)
  have hn2 : decide (-(u0 : Int) < 0) = true := decide_eq_true (by omega)
  go_enter Tryd.func21, Tryd.ntmps21
  go_wp2
  go_loopw [4, 6] (fun u i wr => ∃ (v : Nat) (ds : List UInt8), u = .int .u64 v ∧ v ≤ u0 ∧ i = .int .i64 (24 - (ds.length : Int)) ∧ decRest v ++ ds = Lib.decDigits u0 ∧ Dig w.heap.size ds wr ∧ Below w.heap.size w wr)
    (fun u _ _ => (intOf u).toNat)
  case atStart => exact ⟨u0, [], by go_num, Nat.le_refl _, rfl, by rw [List.append_nil, decRest_pos (by omega)], dig_new _, (Below.refl _ _).alloc (Nat.le_refl _) _⟩
  case round =>
    obtain ⟨v, ds, rfl, hv, rfl, he, hd, hb⟩ := hrel
    have hl : ds.length ≤ 24 := by obtain ⟨_, _, _, h, _⟩ := hd; exact h
    have HE : Hid (decRest v ++ ds = Lib.decDigits u0) := he
    clear he
    by_cases hpos : 0 < v
    · have hr := rest_room HE.out (by omega) hpos
      have hfr := hd.frozen
      obtain ⟨old, hold⟩ := hd.some_cell (24 - ds.length - 1) (by omega)
      go_wp2
      go_roundw
      case rel =>
        refine ⟨v / 10, UInt8.ofNat (48 + v % 10) :: ds, by go_num, by omega, by simp only [List.length_cons]; go_num, rest_step HE.out hpos, ?_, hb.setCell (Nat.le_refl _) _⟩
        rw [← byte_digit v]
        exact hd.store (by omega) _
      case measure => simp [intOf]; omega
    · have hds : ds = Lib.decDigits u0 := by have := HE.out; rw [show v = 0 by omega] at this; simpa [decRest] using this
      have hl20 : ds.length ≤ 20 := by rw [hds, Lib.decDigits_length]; exact Lib.nDigits_le20 _ (by omega)
      have HD : Hid (ds = Lib.decDigits u0) := hds
      clear hds
      have hfr := hd.frozen
      obtain ⟨old, hold⟩ := hd.some_cell (24 - ds.length - 1) (by omega)
      have hd2 := hd.store (by omega) 45
      have hcell := hd2.cell
      have hconv := run_convert_bytes_back (P := Tryd.prog) (wr.setCell ⟨w.heap.size, 24 - ds.length - 1, none⟩ (.int .u8 45)) 26 9 5 ⟨w.heap.size, 24 - (ds.length + 1), none⟩ (ds.length + 1) (45 :: ds) Tryd.underlying26 Tryd.underlying5 Tryd.underlying9 (fun j hj => by rw [Lib.add_plain]; exact hcell j hj)
      have hsl := slice24' w.heap.size (ds.length + 1) (24 - (ds.length : Int) - 1) (by omega) (by omega) (by omega) (wr.setCell ⟨w.heap.size, 24 - ds.length - 1, none⟩ (.int .u8 45))
      have hb2 : Below w.heap.size w (wr.setCell ⟨w.heap.size, 24 - ds.length - 1, none⟩ (.int .u8 45)) := hb.setCell (Nat.le_refl _) _
      rw [show 24 - (ds.length + 1) = 23 - ds.length by omega, List.length_cons] at hconv
      clear hcell hd hd2
      go_wp2
      go_ret
      exact ⟨ret_str (by rw [HD.out, Lib.itoa_neg _ (by omega)]), hb2⟩

set_option maxHeartbeats 400000 in
theorem zzItoa_zero (w : World) :
    Calls Tryd.prog 21 #[.int .i64 0] w fun e w' => e = .returned (.string ⟨(Lib.itoa 0).toArray⟩) ∧ Below w.heap.size w w' := by
  go_enter Tryd.func21, Tryd.ntmps21
  go_wp2
  go_ret
  exact ⟨ret_str (by rw [show (0 : Int) = ((0 : Nat) : Int) from rfl, Lib.itoa_nonneg, Lib.decDigits_one (by omega)]; rfl), Below.refl _ _⟩

/-- zzItoa: the decimal numeral. -/
theorem zzItoa_any (n : Int) (w : World) (h0 : -9223372036854775808 ≤ n) (h1 : n ≤ 9223372036854775807) :
    Calls Tryd.prog 21 #[.int .i64 n] w fun e w' => e = .returned (.string ⟨(Lib.itoa n).toArray⟩) ∧ Below w.heap.size w w' := by
  by_cases hp : 0 < n
  · exact zzItoa_pos n w hp h1
  · by_cases hz : n = 0
    · subst hz; exact zzItoa_zero w
    · obtain ⟨u, rfl⟩ : ∃ u : Nat, n = -(u : Int) := ⟨n.natAbs, by omega⟩
      exact zzItoa_neg u w (by omega) (by omega)
end Go.Proofs.Qxb6620856aDoor
