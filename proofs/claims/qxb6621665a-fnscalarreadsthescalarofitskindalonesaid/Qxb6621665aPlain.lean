/-
  PLAIN: the grammar of a JSON number as the table's run over a list of bytes; no Go in sight.
-/
namespace Go.Proofs.Qxb6621665a
namespace Pl

/-- A decimal digit. -/
def dig (c : Int) : Bool := decide (48 ≤ c) && decide (c ≤ 57)
/-- 'e' or 'E'. -/
def exq (c : Int) : Bool := (c == 101) || (c == 69)
/-- The table. -/
def step (s c : Int) : Int :=
  if s = 0 then (if c = 45 then 1 else if c = 48 then 2 else if dig c = true then 3 else -1)
  else if s = 1 then (if c = 48 then 2 else if dig c = true then 3 else -1)
  else if s = 2 then (if c = 46 then 4 else if exq c = true then 6 else -1)
  else if s = 3 then (if dig c = true then 3 else if c = 46 then 4 else if exq c = true then 6 else -1)
  else if s = 4 then (if dig c = true then 5 else -1)
  else if s = 5 then (if dig c = true then 5 else if exq c = true then 6 else -1)
  else if s = 6 then (if c = 43 ∨ c = 45 then 7 else if dig c = true then 8 else -1)
  else if s = 7 ∨ s = 8 then (if dig c = true then 8 else -1)
  else -1
/-- What has been read is a whole number. -/
def acc (s : Int) : Bool := (s == 2) || ((s == 3) || ((s == 5) || (s == 8)))
/-- How many bytes the table reads, and the state that it stops in. -/
def run : Int → List Int → Nat × Int
  | s, [] => (0, s)
  | s, c :: r => if step s c < 0 then (0, s) else ((run (step s c) r).1 + 1, (run (step s c) r).2)
/-- The length of the number, where there is one. -/
def aut (s : Int) (l : List Int) : Option Nat := if acc (run s l).2 = true then some (run s l).1 else none
/-- How many digits the list opens with. -/
def lead : List Int → Nat
  | [] => 0
  | c :: r => if dig c = true then lead r + 1 else 0

theorem lead_le : ∀ l, lead l ≤ l.length
  | [] => Nat.le_refl _
  | c :: r => by
    have := lead_le r
    unfold lead
    split
    · simp; omega
    · simp
theorem run_le : ∀ (l : List Int) (s : Int), (run s l).1 ≤ l.length
  | [], s => Nat.le_refl _
  | c :: r, s => by
    have := run_le r (step s c)
    unfold run
    split
    · simp
    · simp; omega

theorem aut_nil (s : Int) : aut s [] = if acc s = true then some 0 else none := rfl
theorem aut_stop {s c : Int} (h : step s c < 0) (r : List Int) : aut s (c :: r) = if acc s = true then some 0 else none := by
  unfold aut run; rw [if_pos h]
theorem aut_go {s c : Int} (h : ¬ step s c < 0) (r : List Int) : aut s (c :: r) = (aut (step s c) r).map (· + 1) := by
  unfold aut
  rw [show run s (c :: r) = ((run (step s c) r).1 + 1, (run (step s c) r).2) by rw [run, if_neg h]]
  simp only
  split <;> rfl
theorem aut_to {s c t : Int} (h : step s c = t) (ht : 0 ≤ t) (r : List Int) : aut s (c :: r) = (aut t r).map (· + 1) := by
  rw [aut_go (by omega), h]

theorem lead_hit {c : Int} (h : dig c = true) (r : List Int) : lead (c :: r) = lead r + 1 := by rw [lead, if_pos h]
theorem lead_miss {c : Int} (h : dig c = false) (r : List Int) : lead (c :: r) = 0 := by rw [lead, if_neg (by rw [h]; simp)]

theorem dig_true {c : Int} : dig c = true ↔ 48 ≤ c ∧ c ≤ 57 := by unfold dig; simp
theorem dig_false {c : Int} : dig c = false ↔ ¬ (48 ≤ c ∧ c ≤ 57) := by
  rw [← dig_true]; simp
theorem exq_true {c : Int} : exq c = true ↔ c = 101 ∨ c = 69 := by unfold exq; simp
theorem exq_false {c : Int} : exq c = false ↔ ¬ (c = 101 ∨ c = 69) := by rw [← exq_true]; simp

theorem step0 (c : Int) : step 0 c = if c = 45 then 1 else if c = 48 then 2 else if dig c = true then 3 else -1 := rfl
theorem step1 (c : Int) : step 1 c = if c = 48 then 2 else if dig c = true then 3 else -1 := rfl
theorem step2 (c : Int) : step 2 c = if c = 46 then 4 else if exq c = true then 6 else -1 := rfl
theorem step3 (c : Int) : step 3 c = if dig c = true then 3 else if c = 46 then 4 else if exq c = true then 6 else -1 := rfl
theorem step4 (c : Int) : step 4 c = if dig c = true then 5 else -1 := rfl
theorem step5 (c : Int) : step 5 c = if dig c = true then 5 else if exq c = true then 6 else -1 := rfl
theorem step6 (c : Int) : step 6 c = if c = 43 ∨ c = 45 then 7 else if dig c = true then 8 else -1 := rfl
theorem step7 (c : Int) : step 7 c = if dig c = true then 8 else -1 := rfl
theorem step8 (c : Int) : step 8 c = if dig c = true then 8 else -1 := rfl

/-- The run in a state that eats digits. -/
theorem aut8 : ∀ l, aut 8 l = some (lead l)
  | [] => rfl
  | c :: r => by
    by_cases h : dig c = true
    · rw [aut_to (t := 8) (by rw [step8, if_pos h]) (by omega), aut8 r, lead_hit h]; rfl
    · rw [aut_stop (by rw [step8, if_neg h]; omega), lead_miss (by simpa using h)]; rfl
theorem aut7 (l : List Int) : aut 7 l = if lead l = 0 then none else some (lead l) := by
  match l with
  | [] => rfl
  | c :: r =>
    by_cases h : dig c = true
    · rw [aut_to (t := 8) (by rw [step7, if_pos h]) (by omega), aut8 r, lead_hit h, if_neg (by omega)]; rfl
    · rw [aut_stop (by rw [step7, if_neg h]; omega), lead_miss (by simpa using h), if_pos rfl]; rfl
/-- Behind 'e': a sign. -/
theorem aut6_sign {c : Int} (h : c = 43 ∨ c = 45) (r : List Int) : aut 6 (c :: r) = (aut 7 r).map (· + 1) := aut_to (by rw [step6, if_pos h]) (by omega) r
/-- Behind 'e': no sign. -/
theorem aut6_bare (l : List Int) (h : ∀ c r, l = c :: r → ¬ (c = 43 ∨ c = 45)) : aut 6 l = aut 7 l := by
  match l, h with
  | [], _ => rfl
  | c :: r, h =>
    have h' := h c r rfl
    by_cases hd : dig c = true
    · rw [aut_to (t := 8) (by rw [step6, if_neg h', if_pos hd]) (by omega), aut_to (t := 8) (by rw [step7, if_pos hd]) (by omega)]
    · rw [aut_stop (by rw [step6, if_neg h', if_neg hd]; omega), aut_stop (by rw [step7, if_neg hd]; omega)]; rfl
/-- What may follow the digits of an integer part of its own or of a fraction: an exponent. -/
def autE : List Int → Option Nat
  | [] => some 0
  | c :: r => if exq c = true then (aut 6 r).map (· + 1) else some 0
theorem autE_hit {c : Int} (h : exq c = true) (r : List Int) : autE (c :: r) = (aut 6 r).map (· + 1) := by rw [autE, if_pos h]
theorem autE_miss {c : Int} (h : ¬ exq c = true) (r : List Int) : autE (c :: r) = some 0 := by rw [autE, if_neg h]
theorem map_zero (v : Option Nat) : v.map (· + 0) = v := by cases v <;> rfl
theorem aut5 : ∀ l, aut 5 l = (autE (l.drop (lead l))).map (· + lead l)
  | [] => rfl
  | c :: r => by
    by_cases h : dig c = true
    · rw [aut_to (t := 5) (by rw [step5, if_pos h]) (by omega), aut5 r, lead_hit h, List.drop_succ_cons, Option.map_map]
      rfl
    · rw [lead_miss (by simpa using h), List.drop_zero]
      by_cases he : exq c = true
      · rw [aut_to (t := 6) (by rw [step5, if_neg h, if_pos he]) (by omega), autE_hit he, map_zero]
      · rw [aut_stop (by rw [step5, if_neg h, if_neg he]; omega), autE_miss he]; rfl
theorem aut4 (l : List Int) : aut 4 l = if lead l = 0 then none else aut 5 l := by
  match l with
  | [] => rfl
  | c :: r =>
    by_cases h : dig c = true
    · rw [aut_to (t := 5) (by rw [step4, if_pos h]) (by omega), aut_to (t := 5) (by rw [step5, if_pos h]) (by omega), lead_hit h, if_neg (by omega)]
    · rw [aut_stop (by rw [step4, if_neg h]; omega), lead_miss (by simpa using h), if_pos rfl]; rfl
theorem aut2_dot (r : List Int) : aut 2 (46 :: r) = (aut 4 r).map (· + 1) := aut_to (by rw [step2, if_pos rfl]) (by omega) r
theorem aut2_else (l : List Int) (h : ∀ c r, l = c :: r → c ≠ 46) : aut 2 l = autE l := by
  match l, h with
  | [], _ => rfl
  | c :: r, h =>
    have h' := h c r rfl
    by_cases he : exq c = true
    · rw [aut_to (t := 6) (by rw [step2, if_neg h', if_pos he]) (by omega), autE_hit he]
    · rw [aut_stop (by rw [step2, if_neg h', if_neg he]; omega), autE_miss he]; rfl
theorem aut3 : ∀ l, aut 3 l = (aut 2 (l.drop (lead l))).map (· + lead l)
  | [] => rfl
  | c :: r => by
    by_cases h : dig c = true
    · rw [aut_to (t := 3) (by rw [step3, if_pos h]) (by omega), aut3 r, lead_hit h, List.drop_succ_cons, Option.map_map]
      rfl
    · rw [lead_miss (by simpa using h), List.drop_zero]
      by_cases hd : c = 46
      · subst hd
        rw [aut2_dot, aut_to (t := 4) (by rw [step3, if_neg h, if_pos rfl]) (by omega), map_zero]
      · by_cases he : exq c = true
        · rw [aut_to (t := 6) (by rw [step3, if_neg h, if_neg hd, if_pos he]) (by omega), aut_to (t := 6) (by rw [step2, if_neg hd, if_pos he]) (by omega), map_zero]
        · rw [aut_stop (by rw [step3, if_neg h, if_neg hd, if_neg he]; omega), aut_stop (by rw [step2, if_neg hd, if_neg he]; omega)]; rfl
theorem aut1_zero (r : List Int) : aut 1 (48 :: r) = (aut 2 r).map (· + 1) := aut_to (by rw [step1, if_pos rfl]) (by omega) r
theorem aut1_dig {c : Int} (h : 49 ≤ c ∧ c ≤ 57) (r : List Int) : aut 1 (c :: r) = (aut 2 ((c :: r).drop (lead (c :: r)))).map (· + lead (c :: r)) := by
  have hd : dig c = true := dig_true.2 ⟨by omega, h.2⟩
  rw [← aut3, aut_to (t := 3) (by rw [step1, if_neg (by omega), if_pos hd]) (by omega), aut_to (t := 3) (by rw [step3, if_pos hd]) (by omega)]
theorem aut1_else (l : List Int) (h : ∀ c r, l = c :: r → ¬ (48 ≤ c ∧ c ≤ 57)) : aut 1 l = none := by
  match l, h with
  | [], _ => rfl
  | c :: r, h =>
    have h' := h c r rfl
    have hd : dig c = false := dig_false.2 h'
    rw [aut_stop (by rw [step1, if_neg (by omega), if_neg (by rw [hd]; simp)]; omega)]; rfl
theorem aut0_minus (r : List Int) : aut 0 (45 :: r) = (aut 1 r).map (· + 1) := aut_to (by rw [step0, if_pos rfl]) (by omega) r
theorem aut0_else (l : List Int) (h : ∀ c r, l = c :: r → c ≠ 45) : aut 0 l = aut 1 l := by
  match l, h with
  | [], _ => rfl
  | c :: r, h =>
    have h' := h c r rfl
    have es : step 0 c = step 1 c := by rw [step0, step1, if_neg h']
    by_cases hs : step 0 c < 0
    · rw [aut_stop hs, aut_stop (by rw [← es]; exact hs)]; rfl
    · rw [aut_go hs, aut_go (by rw [← es]; exact hs), es]

/-- Where the number that stands at i ends; 0 where there is none. -/
def endAt (i : Nat) (v : Option Nat) : Nat := match v with
  | some m => i + m
  | none => 0
theorem endAt_aut (i : Nat) (s : Int) (l : List Int) : endAt i (aut s l) = if acc (run s l).2 = true then i + (run s l).1 else 0 := by
  unfold aut; split <;> rfl

/-! ### The table's run over the head of the list -/
/-- The state behind q bytes. -/
def stateAt : Int → List Int → Nat → Int
  | s, _, 0 => s
  | s, [], _ + 1 => s
  | s, c :: r, q + 1 => stateAt (step s c) r q
theorem run_take_long : ∀ (l : List Int) (s : Int) (q : Nat), (run s l).1 ≤ q → run s (l.take q) = run s l
  | [], s, q, _ => by simp
  | c :: r, s, 0, h => by
    unfold run at h
    by_cases hs : step s c < 0
    · rw [run, if_pos hs]; rfl
    · rw [if_neg hs] at h; simp at h
  | c :: r, s, q + 1, h => by
    rw [List.take_succ_cons]
    by_cases hs : step s c < 0
    · rw [run, if_pos hs, run, if_pos hs]
    · rw [run, if_neg hs] at h
      rw [run, if_neg hs, run, if_neg hs, run_take_long r (step s c) q (by simpa using h)]
theorem run_take_short : ∀ (l : List Int) (s : Int) (q : Nat), q ≤ (run s l).1 → run s (l.take q) = (q, stateAt s l q)
  | l, s, 0, _ => by simp [run, stateAt]
  | [], s, q + 1, h => by simp [run] at h
  | c :: r, s, q + 1, h => by
    by_cases hs : step s c < 0
    · rw [run, if_pos hs] at h; simp at h
    · rw [run, if_neg hs] at h
      rw [List.take_succ_cons, run, if_neg hs, run_take_short r (step s c) q (by simpa using h)]
      rfl
/-- The end of the number in the text cut at k. -/
def cutEnd (i k : Nat) (l : List Int) : Nat :=
  if k < i + (run 0 l).1 then (if acc (stateAt 0 l (k - i)) = true then k else 0) else endAt i (aut 0 l)
theorem cutEnd_eq (i k : Nat) (l : List Int) (h : i ≤ k) : endAt i (aut 0 (l.take (k - i))) = cutEnd i k l := by
  unfold cutEnd
  by_cases hk : k < i + (run 0 l).1
  · rw [if_pos hk, endAt_aut, run_take_short l 0 (k - i) (by omega)]
    simp only
    rw [show i + (k - i) = k by omega]
  · rw [if_neg hk, endAt_aut, endAt_aut, run_take_long l 0 (k - i) (by omega)]
/-- The run, a byte further. -/
theorem stateAt_succ : ∀ (l : List Int) (s : Int) (q : Nat) (h : q < l.length), stateAt s l (q + 1) = step (stateAt s l q) (l[q])
  | [], _, _, h => by simp at h
  | c :: r, s, 0, _ => by simp [stateAt]
  | c :: r, s, q + 1, h => by
    show stateAt (step s c) r (q + 1) = step (stateAt (step s c) r q) _
    rw [stateAt_succ r (step s c) q (by simpa using h)]
    rfl
/-- The run stops at q, where every byte before q is read and the one at q is not. -/
theorem run_stop : ∀ (l : List Int) (s : Int) (q : Nat), q ≤ l.length → (∀ j, j < q → 0 ≤ stateAt s l (j + 1)) → (∀ h : q < l.length, step (stateAt s l q) (l[q]) < 0) → run s l = (q, stateAt s l q)
  | [], s, q, hq, _, _ => by
    obtain rfl : q = 0 := by simpa using hq
    rfl
  | c :: r, s, 0, _, _, h => by
    have := h (by simp)
    simp only [stateAt, List.getElem_cons_zero] at this
    rw [run, if_pos this]; rfl
  | c :: r, s, q + 1, hq, h1, h2 => by
    have h0 := h1 0 (by omega)
    have h0' : ¬ step s c < 0 := by simp only [stateAt] at h0; omega
    rw [run, if_neg h0', run_stop r (step s c) q (by simpa using hq) (fun j hj => h1 (j + 1) (by omega)) (fun h => h2 (by simpa using h))]
    rfl
end Pl
end Go.Proofs.Qxb6621665a
