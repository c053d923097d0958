/-
  literal, scalar, ZZScalar.
-/
import Derived.Test.Qxb6621665aCopy
import Derived.Laws.IdiomStrings
import Derived.Lib.ItoaMem
namespace Go.Proofs.Qxb6621665a
open Go.ChangeShapes Go.WideShapes Go.ChangeAt Go.RowKit

theorem Text.below {b off n : Nat} {zs : List Int} {w w1 : World} (h : Text b off n zs w) (hb : b < w.heap.size) (hB : Below w.heap.size w w1) : Text b off n zs w1 :=
  ⟨h.len, h.small, fun j hj => (hB.cell (p := ⟨b, off + j, none⟩) hb).trans (h.cell j hj)⟩
theorem Text.heap {b off n : Nat} {zs : List Int} {w w1 : World} (h : Text b off n zs w) (hh : w1.heap = w.heap) : Text b off n zs w1 :=
  ⟨h.len, h.small, fun j hj => by have := h.cell j hj; unfold World.cell? at this ⊢; rw [hh]; exact this⟩

/-- All numbers are bytes. -/
def Byt (zs : List Int) : Prop := ∀ j, 0 ≤ zs.getD j 0 ∧ zs.getD j 0 ≤ 255

/-- The bytes of a word, as numbers. -/
def nums (ws : List UInt8) : List Int := ws.map fun b => (b.toNat : Int)
/-- The text holds the word at i. -/
def wordAt (zs : List Int) (i : Nat) (ws : List UInt8) : Bool := decide ((zs.drop i).take ws.length = nums ws)

theorem nums_length (ws : List UInt8) : (nums ws).length = ws.length := by simp [nums]
theorem word_short {zs : List Int} {i : Nat} {ws : List UInt8} (h : ¬ i + ws.length ≤ zs.length) (hw : 0 < ws.length) : wordAt zs i ws = false := by
  unfold wordAt
  refine decide_eq_false fun e => ?_
  have := congrArg List.length e
  rw [List.length_take, List.length_drop, nums_length] at this
  omega
/-- The bytes from i on. -/
def bytesAt (zs : List Int) (i m : Nat) : List UInt8 := ((zs.drop i).take m).map fun z => UInt8.ofNat z.toNat
theorem bytesAt_length {zs : List Int} {i m : Nat} (h : i + m ≤ zs.length) : (bytesAt zs i m).length = m := by
  unfold bytesAt; rw [List.length_map, List.length_take, List.length_drop]; omega
theorem byte_back {z : Int} (h0 : 0 ≤ z) (h1 : z ≤ 255) : ((UInt8.ofNat z.toNat).toNat : Int) = z := by
  rw [UInt8.toNat_ofNat']; omega
theorem getD_mem {zs : List Int} (hb : Byt zs) : ∀ z ∈ zs, 0 ≤ z ∧ z ≤ 255 := by
  intro z hz
  obtain ⟨j, hj, e⟩ := List.mem_iff_getElem.1 hz
  have := hb j
  rw [show zs.getD j 0 = z by simp [List.getD, List.getElem?_eq_getElem hj, e]] at this
  exact this
theorem bytesAt_get {zs : List Int} (hb : Byt zs) {i m : Nat} (h : i + m ≤ zs.length) (j : Nat) (hj : j < (bytesAt zs i m).length) : ((bytesAt zs i m)[j].toNat : Int) = zs.getD (i + j) 0 := by
  have hm : j < m := by rw [bytesAt_length h] at hj; exact hj
  have e : zs.getD (i + j) 0 = zs[i + j]'(by omega) := by simp [List.getD, List.getElem?_eq_getElem (show i + j < zs.length by omega)]
  have e2 : (bytesAt zs i m)[j] = UInt8.ofNat (zs[i + j]'(by omega)).toNat := by simp [bytesAt]
  have := hb (i + j)
  rw [e] at this ⊢
  rw [e2]
  exact byte_back this.1 this.2
theorem nums_bytes {zs : List Int} (hb : Byt zs) (i m : Nat) : nums (bytesAt zs i m) = (zs.drop i).take m := by
  unfold nums bytesAt
  rw [List.map_map]
  have : ∀ z ∈ (zs.drop i).take m, ((fun b : UInt8 => (b.toNat : Int)) ∘ fun z : Int => UInt8.ofNat z.toNat) z = z := by
    intro z hz
    have := getD_mem hb z (List.mem_of_mem_drop (List.mem_of_mem_take hz))
    exact byte_back this.1 this.2
  rw [List.map_congr_left this, List.map_id']
theorem nums_inj {a b : List UInt8} (h : nums a = nums b) : a = b := by
  unfold nums at h
  exact List.map_inj_right (fun x y e => UInt8.toNat_inj.1 (by omega)) |>.1 h
theorem word_bytes {zs : List Int} (hb : Byt zs) (i : Nat) (ws : List UInt8) : wordAt zs i ws = decide (bytesAt zs i ws.length = ws) := by
  unfold wordAt
  rw [decide_eq_decide, ← nums_bytes hb]
  exact ⟨nums_inj, fun h => by rw [h]⟩

/-- What 'literal' answers. -/
def litF (zs : List Int) (i : Nat) (ws : List UInt8) : Nat := if wordAt zs i ws = true then i + ws.length else 0

set_option maxHeartbeats 1000000 in
set_option maxRecDepth 10000 in
theorem literal_any (b off n cap : Nat) (zs : List Int) (i : Nat) (ws : List UInt8) (w : World) (h : Text b off n zs w) (hcap : n ≤ cap) (hby : Byt zs) (hi : i ≤ n) (hw0 : 0 < ws.length) (hw1 : ws.length ≤ 100) :
    Calls Try.prog 20 #[.slice (some ⟨b, off, none⟩) n cap, .int .i64 i, .string ⟨ws.toArray⟩] w fun e w' => e = .returned (.int .i64 (litF zs i ws : Nat)) ∧ w' = w := by
  have HT : Hid (Text b off n zs w) := h
  have hsm := h.small
  have HB : Hid (Byt zs) := hby
  clear h hby
  by_cases hl : i + ws.length ≤ n
  · have hle : ¬ cap = i := by omega
    obtain ⟨l, hbl⟩ : ∃ l, l = bytesAt zs i ws.length := ⟨_, rfl⟩
    have hll : l.length = ws.length := by rw [hbl]; exact bytesAt_length (by rw [HT.out.len]; exact hl)
    have hconv := run_convert_bytes_back (P := Try.prog) w 22 9 5 ⟨b, off + i, none⟩ (cap - i) l Try.underlying22 Try.underlying5 Try.underlying9 (fun j hj => by
      have hj' : j < ws.length := by rw [hll] at hj; exact hj
      rw [Lib.add_plain, Nat.add_assoc]
      rw [HT.out.cell (i + j) (by omega)]
      subst hbl
      rw [bytesAt_get HB.out (by rw [HT.out.len]; exact hl) j hj])
    rw [hll] at hconv
    have HL := (show Hid _ from hbl)
    have HLL := (show Hid _ from hll)
    clear hbl hll
    by_cases he : l = ws
    · have hb0 : (l == ws) = true := beq_iff_eq.2 he
      have HN : Hid (litF zs i ws = i + ws.length) := by
        show _ = _
        unfold litF
        rw [word_bytes HB.out, ← HL.out, decide_eq_true he, if_pos rfl]
      clear he
      go_enter Try.func20, Try.ntmps20
      go_wp2
      go_ret
      exact ⟨ret_int (by rw [HN.out]; go_num), rfl⟩
    · have hb0 : (l == ws) = false := beq_eq_false_iff_ne.2 he
      have HN : Hid (litF zs i ws = 0) := by
        show _ = _
        unfold litF
        rw [word_bytes HB.out, ← HL.out, decide_eq_false he, if_neg Bool.false_ne_true]
      clear he
      go_enter Try.func20, Try.ntmps20
      go_wp2
      go_ret
      exact ⟨ret_int (by rw [HN.out]; rfl), rfl⟩
  · have HN : Hid (litF zs i ws = 0) := by
      show _ = _
      unfold litF
      rw [word_short (by rw [HT.out.len]; exact hl) hw0, if_neg Bool.false_ne_true]
    go_enter Try.func20, Try.ntmps20
    go_wp2
    go_ret
    exact ⟨ret_int (by rw [HN.out]; rfl), rfl⟩

/-- What 'scalar' answers. -/
def scalF (zs : List Int) (i : Nat) (kd : Int) : Nat :=
  if kd = 3 then Pl.endAt i (Pl.aut 0 (zs.drop i))
  else if kd = 2 then (if zs.getD i 0 = 116 then litF zs i [116, 114, 117, 101] else litF zs i [102, 97, 108, 115, 101])
  else if kd = 1 then litF zs i [110, 117, 108, 108] else 0

set_option maxHeartbeats 1000000 in
set_option maxRecDepth 10000 in
theorem scalar_any (p b off n cap : Nat) (zs : List Int) (i : Nat) (kd : Int) (w : World) (h : Text b off n zs w) (hcap : n ≤ cap) (hby : Byt zs) (hi : i < n) (hp : w.cell? ⟨p, 0, none⟩ = some (.slice (some ⟨b, off, none⟩) n cap)) :
    Calls Try.prog 17 #[.pointer (some ⟨p, 0, none⟩), .int .i64 i, .int .u8 kd] w fun e w' => e = .returned (.int .i64 (scalF zs i kd : Nat)) ∧ w' = w := by
  have HT : Hid (Text b off n zs w) := h
  have hsm := h.small
  have HB : Hid (Byt zs) := hby
  clear h hby
  by_cases h3 : kd = 3
  · have HN : Hid (Pl.endAt i (Pl.aut 0 (zs.drop i)) = scalF zs i kd) := by show _ = _; unfold scalF; rw [if_pos h3]
    have hb0 : (kd == 3) = true := beq_iff_eq.2 h3
    clear h3
    go_enter Try.func17, Try.ntmps17
    go_wp2_with fail
    refine (number_any b off n cap zs _ i _ HT.out rfl hi).mono ?_
    rintro e w2 ⟨rfl, hw2⟩
    rw [hw2, HN.out]
    clear hw2 w2
    go_wp2
    go_ret
    exact ⟨rfl, rfl⟩
  · have hb3 : (kd == 3) = false := beq_eq_false_iff_ne.2 h3
    by_cases h2 : kd = 2
    · have hb2 : (kd == 2) = true := beq_iff_eq.2 h2
      obtain ⟨c, hcz⟩ : ∃ c, c = zs.getD i 0 := ⟨_, rfl⟩
      have hck : w.cell? ⟨b, off + i, none⟩ = some (.int .u8 c) := by rw [hcz]; exact HT.out.cell i hi
      by_cases hc : c = 116
      · have hbc : (c == 116) = true := beq_iff_eq.2 hc
        have HN : Hid (litF zs i [116, 114, 117, 101] = scalF zs i kd) := by
          show _ = _; unfold scalF; rw [if_neg h3, if_pos h2, if_pos (by rw [← hcz]; exact hc)]
        clear hcz hc h2 h3
        go_enter Try.func17, Try.ntmps17
        go_wp2_with fail
        refine (literal_any b off n cap zs i [116, 114, 117, 101] _ HT.out hcap HB.out (by omega) (by decide) (by decide)).mono ?_
        rintro e w2 ⟨rfl, hw2⟩
        rw [hw2, HN.out]
        clear hw2 w2
        go_wp2
        go_ret
        exact ⟨rfl, rfl⟩
      · have hbc : (c == 116) = false := beq_eq_false_iff_ne.2 hc
        have HN : Hid (litF zs i [102, 97, 108, 115, 101] = scalF zs i kd) := by
          show _ = _; unfold scalF; rw [if_neg h3, if_pos h2, if_neg (by rw [← hcz]; exact hc)]
        clear hcz hc h2 h3
        go_enter Try.func17, Try.ntmps17
        go_wp2_with fail
        refine (literal_any b off n cap zs i [102, 97, 108, 115, 101] _ HT.out hcap HB.out (by omega) (by decide) (by decide)).mono ?_
        rintro e w2 ⟨rfl, hw2⟩
        rw [hw2, HN.out]
        clear hw2 w2
        go_wp2
        go_ret
        exact ⟨rfl, rfl⟩
    · have hb2 : (kd == 2) = false := beq_eq_false_iff_ne.2 h2
      by_cases h1 : kd = 1
      · have hb1 : (kd == 1) = true := beq_iff_eq.2 h1
        have HN : Hid (litF zs i [110, 117, 108, 108] = scalF zs i kd) := by
          show _ = _; unfold scalF; rw [if_neg h3, if_neg h2, if_pos h1]
        clear h1 h2 h3
        go_enter Try.func17, Try.ntmps17
        go_wp2_with fail
        refine (literal_any b off n cap zs i [110, 117, 108, 108] _ HT.out hcap HB.out (by omega) (by decide) (by decide)).mono ?_
        rintro e w2 ⟨rfl, hw2⟩
        rw [hw2, HN.out]
        clear hw2 w2
        go_wp2
        go_ret
        exact ⟨rfl, rfl⟩
      · have hb1 : (kd == 1) = false := beq_eq_false_iff_ne.2 h1
        have HN : Hid (0 = scalF zs i kd) := by
          show _ = _; unfold scalF; rw [if_neg h3, if_neg h2, if_neg h1]
        clear h1 h2 h3
        go_enter Try.func17, Try.ntmps17
        go_wp2
        go_ret
        exact ⟨ret_int (by rw [← HN.out]; rfl), rfl⟩

set_option maxHeartbeats 1000000 in
set_option maxRecDepth 10000 in
theorem zzScalar_any (b off n cap : Nat) (zs : List Int) (i : Nat) (kd : Int) (w : World) (h : Text b off n zs w) (hbw : b < w.heap.size) (hcap : n ≤ cap) (hby : Byt zs) (hi : i < n) :
    Calls Try.prog 10 #[.slice (some ⟨b, off, none⟩) n cap, .int .i64 i, .int .u8 kd] w fun e w' => e = .returned (.int .i64 (scalF zs i kd : Nat)) ∧ Below w.heap.size w w' := by
  have HT : Hid (Text b off n zs w) := h
  have HB : Hid (Byt zs) := hby
  clear h hby
  go_enter Try.func10, Try.ntmps10
  have HA : ∀ o, Hid (Text b off n zs (w.alloc o)) := fun o => HT.out.below hbw ((Below.refl _ _).alloc (Nat.le_refl _) _)
  go_wp2_with fail
  refine (scalar_any w.heap.size b off n cap zs i kd _ (HA _).out hcap HB.out hi (by simp)).mono ?_
  rintro e w2 ⟨rfl, hw2⟩
  rw [hw2]
  clear hw2 w2
  go_wp2
  go_ret
  exact ⟨rfl, (Below.refl _ _).alloc (Nat.le_refl _) _⟩
end Go.Proofs.Qxb6621665a
