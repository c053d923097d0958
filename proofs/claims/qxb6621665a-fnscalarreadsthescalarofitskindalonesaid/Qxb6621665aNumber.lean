/-
  number.
-/
import Derived.Test.Qxb6621665aDigits
import Derived.Deep.DeepCutAuto
import Derived.Deep.CutBlock
namespace Go.Proofs.Qxb6621665a
open Go.ChangeShapes Go.WideShapes Go.ChangeAt Go.RowKit

theorem map_add (v : Option Nat) (a b c : Nat) (h : a + b = c) : (v.map (· + a)).map (· + b) = v.map (· + c) := by
  cases v with
  | none => rfl
  | some m => simp only [Option.map_some, Option.some.injEq]; omega
theorem drop_end {zs : List Int} {p n : Nat} (hz : zs.length = n) (h : ¬ p < n) : zs.drop p = [] := List.drop_eq_nil_iff.2 (by omega)

/-- What is known at p: the number's length is what the table's run from p on says, and p - i more. -/
def At (V : Option Nat) (f : List Int → Option Nat) (zs : List Int) (i p n : Nat) : Prop := i ≤ p ∧ p ≤ n ∧ V = (f (zs.drop p)).map (· + (p - i))

theorem At.none {V : Option Nat} {f : List Int → Option Nat} {zs : List Int} {i p n : Nat} (h : At V f zs i p n) (hf : f (zs.drop p) = Option.none) : Pl.endAt i V = 0 := by
  obtain ⟨_, _, h⟩ := h
  rw [h, hf]; rfl
theorem At.some {V : Option Nat} {f : List Int → Option Nat} {zs : List Int} {i p n m : Nat} (h : At V f zs i p n) (hf : f (zs.drop p) = Option.some m) : Pl.endAt i V = p + m := by
  obtain ⟨h1, _, h⟩ := h
  rw [h, hf]
  show i + (m + (p - i)) = _
  omega
theorem At.next {V : Option Nat} {f g : List Int → Option Nat} {zs : List Int} {i p q n : Nat} (h : At V f zs i p n) (hpq : p ≤ q) (hqn : q ≤ n) (hf : f (zs.drop p) = (g (zs.drop q)).map (· + (q - p))) : At V g zs i q n := by
  obtain ⟨h1, h2, h3⟩ := h
  exact ⟨by omega, hqn, by rw [h3, hf, map_add _ _ _ (q - i) (by omega)]⟩

/-- A byte stands at p, and it is such a one. -/
def has (zs : List Int) (p : Nat) (f : Int → Bool) : Bool := decide (p < zs.length) && f (zs.getD p 0)
theorem has_in {zs : List Int} {p : Nat} {f : Int → Bool} {c : Int} (h : p < zs.length) (hc : c = zs.getD p 0) : has zs p f = f c := by
  unfold has; rw [decide_eq_true h, hc]; rfl
theorem has_out {zs : List Int} {p : Nat} {f : Int → Bool} (h : ¬ p < zs.length) : has zs p f = false := by
  unfold has; rw [decide_eq_false h]; rfl
theorem has_true {zs : List Int} {p : Nat} {f : Int → Bool} (h : has zs p f = true) : p < zs.length ∧ f (zs.getD p 0) = true ∧ zs.drop p = zs.getD p 0 :: zs.drop (p + 1) := by
  unfold has at h
  rw [Bool.and_eq_true, decide_eq_true_eq] at h
  exact ⟨h.1, h.2, drop_at h.1⟩
theorem has_false {zs : List Int} {p : Nat} {f : Int → Bool} (h : has zs p f = false) : ∀ c r, zs.drop p = c :: r → f c = false := by
  intro c r e
  have hp : p < zs.length := by
    refine Decidable.by_contra fun hn => ?_
    rw [List.drop_eq_nil_iff.2 (by omega)] at e
    cases e
  rw [drop_at hp] at e
  injection e with e1 _
  rw [has_in hp rfl, e1] at h
  exact h
theorem autE_none (l : List Int) (h : ∀ c r, l = c :: r → Pl.exq c = false) : Pl.autE l = some 0 := by
  match l, h with
  | [], _ => rfl
  | c :: r, h => exact Pl.autE_miss (by rw [h c r rfl]; simp) r
def sgn (c : Int) : Bool := (c == 43) || (c == 45)
theorem sgn_true {c : Int} : sgn c = true ↔ c = 43 ∨ c = 45 := by unfold sgn; simp
theorem sgn_false {c : Int} : sgn c = false ↔ ¬ (c = 43 ∨ c = 45) := by rw [← sgn_true]; simp

set_option maxHeartbeats 1000000 in
set_option maxRecDepth 10000 in
theorem number_any (b off n cap : Nat) (zs : List Int) (z : Int) (i : Nat) (w : World) (h : Text b off n zs w) (hzi : z = (i : Int)) (hi : i < n) :
    Calls Try.prog 15 #[.slice (some ⟨b, off, none⟩) n cap, .int .i64 z] w fun e w' => e = .returned (.int .i64 (Pl.endAt i (Pl.aut 0 (zs.drop i)) : Nat)) ∧ w' = w := by
  subst hzi
  have HT : Hid (Text b off n zs w) := h
  have hsm := h.small
  clear h
  obtain ⟨V, hV⟩ : ∃ V, V = Pl.aut 0 (zs.drop i) := ⟨_, rfl⟩
  rw [← hV]
  have HV := (show Hid _ from hV)
  clear hV
  obtain ⟨c0, hc0⟩ : ∃ c, c = zs.getD i 0 := ⟨_, rfl⟩
  have hck : w.cell? ⟨b, off + i, none⟩ = some (.int .u8 c0) := by rw [hc0]; exact HT.out.cell i hi
  have HD : Hid (zs.drop i = c0 :: zs.drop (i + 1)) := by show _ = _; rw [hc0]; exact drop_at (by rw [HT.out.len]; exact hi)
  clear hc0
  go_enter Try.func15, Try.ntmps15
  go_upto_if 9 with fail
  go_cut [1] (fun t wx => ∃ p : Nat, t = .int .i64 p ∧ At V (Pl.aut 1) zs i p n ∧ wx = w)
  case first =>
    by_cases h45 : c0 = 45
    · have hb0 : (c0 == 45) = true := beq_iff_eq.2 h45
      have H45 := (show Hid _ from h45)
      clear h45
      go_wp2
      go_meet
      refine ⟨i + 1, by go_num, ⟨by omega, by omega, ?_⟩, rfl⟩
      rw [HV.out, HD.out, H45.out, Pl.aut0_minus, show i + 1 - i = 1 by omega]
    · have hb0 : (c0 == 45) = false := beq_eq_false_iff_ne.2 h45
      go_wp2
      go_meet
      refine ⟨i, rfl, ⟨by omega, by omega, ?_⟩, rfl⟩
      rw [HV.out, Nat.sub_self, Pl.map_zero, HD.out]
      exact Pl.aut0_else _ (fun c r e => by injection e with e1 _; rw [← e1]; exact h45)
  case rest =>
    obtain ⟨p, rfl, hA, hw⟩ := hcut
    rw [hw]
    clear hw wc HD hck
    have HA : Hid (At V (Pl.aut 1) zs i p n) := hA
    have hip := hA.1
    have hpn := hA.2.1
    clear hA
    go_upto_block 0 with fail
    go_cut [1] (fun t wx => ∃ p : Nat, t = .int .i64 p ∧ At V (Pl.aut 2) zs i p n ∧ wx = w)
    case first =>
      by_cases hlt : p < n
      · obtain ⟨c, hcz⟩ : ∃ c, c = zs.getD p 0 := ⟨_, rfl⟩
        have hck : w.cell? ⟨b, off + p, none⟩ = some (.int .u8 c) := by rw [hcz]; exact HT.out.cell p hlt
        have HD : Hid (zs.drop p = c :: zs.drop (p + 1)) := by show _ = _; rw [hcz]; exact drop_at (by rw [HT.out.len]; exact hlt)
        clear hcz
        by_cases h48 : c = 48
        · have hb0 : (c == 48) = true := beq_iff_eq.2 h48
          have H48 := (show Hid _ from h48)
          clear h48
          go_wp2
          go_meet
          refine ⟨p + 1, by go_num, HA.out.next (by omega) (by omega) ?_, rfl⟩
          rw [HD.out, H48.out, Pl.aut1_zero, show p + 1 - p = 1 by omega]
        · have hb0 : (c == 48) = false := beq_eq_false_iff_ne.2 h48
          by_cases hdg : 49 ≤ c ∧ c ≤ 57
          · obtain ⟨hd1, hd2⟩ := hdg
            have hld : Pl.lead (zs.drop p) = Pl.lead (zs.drop (p + 1)) + 1 := by rw [HD.out, Pl.lead_hit (Pl.dig_true.2 ⟨by omega, hd2⟩)]
            have hle := Pl.lead_le (zs.drop p)
            rw [List.length_drop, HT.out.len] at hle
            have HE : Hid (digEnd zs p = p + Pl.lead (zs.drop p)) := by show _ = _; unfold digEnd; rw [if_neg (by omega)]
            have HLD := (show Hid _ from hld)
            have HLE := (show Hid _ from hle)
            clear hld hle
            go_wp2_with fail
            refine (digits_any b off n cap zs _ p _ HT.out rfl hpn).mono ?_
            rintro e w2 ⟨rfl, hw2⟩
            rw [hw2]
            clear hw2 w2
            go_wp2
            go_meet
            refine ⟨p + Pl.lead (zs.drop p), by rw [HE.out], HA.out.next (by omega) (by have := HLE.out; omega) ?_, rfl⟩
            have h1 := Pl.aut1_dig ⟨hd1, hd2⟩ (zs.drop (p + 1))
            rw [← HD.out, List.drop_drop] at h1
            rw [h1, show p + Pl.lead (zs.drop p) - p = Pl.lead (zs.drop p) by omega]
          · have HN : Hid (Pl.aut 1 (zs.drop p) = none) := by
              show _ = _
              rw [HD.out]
              exact Pl.aut1_else _ (fun c' r e => by injection e with e1 _; rw [← e1]; omega)
            by_cases hlo : c < 49
            · clear hdg
              go_wp2
              go_ret
              exact ⟨ret_int (by rw [HA.out.none HN.out]; rfl), rfl⟩
            · have hhi : 57 < c := by omega
              clear hdg
              go_wp2
              go_ret
              exact ⟨ret_int (by rw [HA.out.none HN.out]; rfl), rfl⟩
      · have HN : Hid (Pl.aut 1 (zs.drop p) = none) := by
          show _ = _
          rw [drop_end HT.out.len hlt]
          exact Pl.aut1_else _ (fun c' r e => by cases e)
        go_wp2
        go_ret
        exact ⟨ret_int (by rw [HA.out.none HN.out]; rfl), rfl⟩
    case rest =>
      obtain ⟨p2, rfl, hA, hw⟩ := hcut
      rw [hw]
      clear hw wc HA hip hpn
      have HA : Hid (At V (Pl.aut 2) zs i p2 n) := hA
      have hip := hA.1
      have hpn := hA.2.1
      clear hA
      obtain ⟨G, hG⟩ : ∃ G, G = has zs p2 (· == 46) := ⟨_, rfl⟩
      have HG : Hid (G = has zs p2 (· == 46)) := hG
      clear hG
      go_upto_region 8 with fail
      go_cut [58] (fun s wx => s = .bool G ∧ wx = w)
      case first =>
        by_cases hlt : p2 < n
        · obtain ⟨c, hcz⟩ : ∃ c, c = zs.getD p2 0 := ⟨_, rfl⟩
          have hck : w.cell? ⟨b, off + p2, none⟩ = some (.int .u8 c) := by rw [hcz]; exact HT.out.cell p2 hlt
          have HCZ := (show Hid _ from hcz)
          clear hcz
          go_wp2
          go_meet
          exact ⟨by rw [HG.out, has_in (by rw [HT.out.len]; exact hlt) HCZ.out], rfl⟩
        · go_wp2
          go_meet
          exact ⟨by rw [HG.out, has_out (by rw [HT.out.len]; exact hlt)], rfl⟩
      case rest =>
        obtain ⟨rfl, hw⟩ := hcut
        rw [hw]
        clear hw wc
        go_upto_if 58 with fail
        go_cut [1] (fun t wx => ∃ p : Nat, t = .int .i64 p ∧ At V Pl.autE zs i p n ∧ wx = w)
        case first =>
          cases G
          · go_wp2
            go_meet
            refine ⟨p2, rfl, HA.out.next (Nat.le_refl _) hpn ?_, rfl⟩
            rw [Nat.sub_self, Pl.map_zero]
            exact Pl.aut2_else _ (fun c r e => by have := has_false HG.out.symm c r e; simpa using this)
          · obtain ⟨hl1, hc1, hd1⟩ := has_true HG.out.symm
            have HD : Hid (zs.drop p2 = 46 :: zs.drop (p2 + 1)) := by
              show _ = _
              rw [hd1, show zs.getD p2 0 = 46 by simpa using hc1]
            rw [HT.out.len] at hl1
            clear hc1 hd1
            have hle := Pl.lead_le (zs.drop (p2 + 1))
            rw [List.length_drop, HT.out.len] at hle
            by_cases hz : Pl.lead (zs.drop (p2 + 1)) = 0
            · have HE : Hid (digEnd zs (p2 + 1) = 0) := by show _ = _; unfold digEnd; rw [if_pos hz]
              have HN : Hid (Pl.aut 2 (zs.drop p2) = none) := by show _ = _; rw [HD.out, Pl.aut2_dot, Pl.aut4, if_pos hz]; rfl
              clear hz hle
              go_wp2_with fail
              refine (digits_any b off n cap zs _ (p2 + 1) _ HT.out (by omega) (by omega)).mono ?_
              rintro e w2 ⟨rfl, hw2⟩
              rw [hw2, HE.out]
              clear hw2 w2
              go_wp2
              go_ret
              exact ⟨ret_int (by rw [HA.out.none HN.out]; rfl), rfl⟩
            · obtain ⟨q, hq⟩ : ∃ q, q = digEnd zs (p2 + 1) := ⟨_, rfl⟩
              have hq2 : q = p2 + 1 + Pl.lead (zs.drop (p2 + 1)) := by rw [hq]; unfold digEnd; rw [if_neg hz]
              have HQ := (show Hid _ from hq)
              have hq3 : 0 < q := by omega
              have hq4 : q ≤ n := by omega
              have hq5 : p2 ≤ q := by omega
              have HN : Hid (Pl.aut 2 (zs.drop p2) = (Pl.autE (zs.drop q)).map (· + (q - p2))) := by
                show _ = _
                rw [HD.out, Pl.aut2_dot, Pl.aut4, if_neg hz, Pl.aut5, List.drop_drop, ← hq2]
                exact map_add _ _ _ _ (by omega)
              have hb0 : ((q : Int) == 0) = false := beq_eq_false_iff_ne.2 (by omega)
              clear hq hq2 hz hle
              go_wp2_with fail
              refine (digits_any b off n cap zs _ (p2 + 1) _ HT.out (by omega) (by omega)).mono ?_
              rintro e w2 ⟨rfl, hw2⟩
              rw [hw2, ← HQ.out]
              clear hw2 w2
              go_wp2
              go_meet
              exact ⟨q, rfl, HA.out.next hq5 hq4 HN.out, rfl⟩
        case rest =>
          obtain ⟨p3, rfl, hA, hw⟩ := hcut
          rw [hw]
          clear hw wc HA hip hpn HG
          have HA : Hid (At V Pl.autE zs i p3 n) := hA
          have hip := hA.1
          have hpn := hA.2.1
          clear hA
          obtain ⟨G, hG⟩ : ∃ G, G = has zs p3 Pl.exq := ⟨_, rfl⟩
          have HG : Hid (G = has zs p3 Pl.exq) := hG
          clear hG
          go_upto_region 12 with fail
          go_cut [82] (fun s wx => s = .bool G ∧ wx = w)
          case first =>
            by_cases hlt : p3 < n
            · obtain ⟨c, hcz⟩ : ∃ c, c = zs.getD p3 0 := ⟨_, rfl⟩
              have hck : w.cell? ⟨b, off + p3, none⟩ = some (.int .u8 c) := by rw [hcz]; exact HT.out.cell p3 hlt
              have HCZ := (show Hid _ from hcz)
              clear hcz
              by_cases h1 : c = 101
              · have hb0 : (c == 101) = true := beq_iff_eq.2 h1
                have H1 := (show Hid _ from h1)
                clear h1
                go_wp2
                go_meet
                exact ⟨by rw [HG.out, has_in (by rw [HT.out.len]; exact hlt) HCZ.out, Pl.exq_true.2 (.inl H1.out)], rfl⟩
              · have hb0 : (c == 101) = false := beq_eq_false_iff_ne.2 h1
                go_wp2
                go_meet
                exact ⟨by rw [HG.out, has_in (by rw [HT.out.len]; exact hlt) HCZ.out]; unfold Pl.exq; rw [hb0]; rfl, rfl⟩
            · go_wp2
              go_meet
              exact ⟨by rw [HG.out, has_out (by rw [HT.out.len]; exact hlt)], rfl⟩
          case rest =>
            obtain ⟨rfl, hw⟩ := hcut
            rw [hw]
            clear hw wc
            go_upto_if 82 with fail
            go_cut [1] (fun t wx => ∃ p : Nat, t = .int .i64 p ∧ At V (fun _ => some 0) zs i p n ∧ wx = w)
            case first =>
              cases G
              · go_wp2
                go_meet
                refine ⟨p3, rfl, HA.out.next (Nat.le_refl _) hpn ?_, rfl⟩
                rw [Nat.sub_self, Pl.map_zero]
                exact autE_none _ (fun c r e => has_false HG.out.symm c r e)
              · obtain ⟨hl1, hc1, hd1⟩ := has_true HG.out.symm
                have HA2 : Hid (At V (Pl.aut 6) zs i (p3 + 1) n) := by
                  refine HA.out.next (by omega) (by rw [HT.out.len] at hl1; omega) ?_
                  rw [hd1, Pl.autE_hit hc1, show p3 + 1 - p3 = 1 by omega]
                rw [HT.out.len] at hl1
                clear hc1 hd1
                obtain ⟨G3, hG⟩ : ∃ G3, G3 = has zs (p3 + 1) sgn := ⟨_, rfl⟩
                have HG3 : Hid (G3 = has zs (p3 + 1) sgn) := hG
                clear hG
                go_upto_region 14 with fail
                go_cut [102] (fun s wx => s = .bool G3 ∧ wx = w)
                case first =>
                  by_cases hlt : p3 + 1 < n
                  · obtain ⟨c, hcz⟩ : ∃ c, c = zs.getD (p3 + 1) 0 := ⟨_, rfl⟩
                    have hck : w.cell? ⟨b, off + (p3 + 1), none⟩ = some (.int .u8 c) := by rw [hcz]; exact HT.out.cell (p3 + 1) hlt
                    have HCZ := (show Hid _ from hcz)
                    clear hcz
                    by_cases h1 : c = 43
                    · have hb0 : (c == 43) = true := beq_iff_eq.2 h1
                      have H1 := (show Hid _ from h1)
                      clear h1
                      go_wp2
                      go_meet
                      exact ⟨by rw [HG3.out, has_in (by rw [HT.out.len]; exact hlt) HCZ.out, sgn_true.2 (.inl H1.out)], rfl⟩
                    · have hb0 : (c == 43) = false := beq_eq_false_iff_ne.2 h1
                      go_wp2
                      go_meet
                      exact ⟨by rw [HG3.out, has_in (by rw [HT.out.len]; exact hlt) HCZ.out]; unfold sgn; rw [hb0]; rfl, rfl⟩
                  · go_wp2
                    go_meet
                    exact ⟨by rw [HG3.out, has_out (by rw [HT.out.len]; exact hlt)], rfl⟩
                case rest =>
                  obtain ⟨rfl, hw⟩ := hcut
                  rw [hw]
                  clear hw wc
                  go_upto_if 102 with fail
                  go_cut [1] (fun t wx => ∃ p : Nat, t = .int .i64 p ∧ p3 ≤ p ∧ At V (Pl.aut 7) zs i p n ∧ wx = w)
                  case first =>
                    cases G3
                    · go_wp2
                      go_meet
                      refine ⟨p3 + 1, by go_num, by omega, HA2.out.next (Nat.le_refl _) (by omega) ?_, rfl⟩
                      rw [Nat.sub_self, Pl.map_zero]
                      exact Pl.aut6_bare _ (fun c r e => sgn_false.1 (has_false HG3.out.symm c r e))
                    · obtain ⟨hl2, hc2, hd2⟩ := has_true HG3.out.symm
                      have HN : Hid (Pl.aut 6 (zs.drop (p3 + 1)) = (Pl.aut 7 (zs.drop (p3 + 2))).map (· + 1)) := by
                        show _ = _
                        rw [hd2, Pl.aut6_sign (sgn_true.1 hc2)]
                      rw [HT.out.len] at hl2
                      clear hc2 hd2
                      go_wp2
                      go_meet
                      refine ⟨p3 + 2, by go_num, by omega, HA2.out.next (by omega) (by omega) ?_, rfl⟩
                      rw [HN.out, show p3 + 2 - (p3 + 1) = 1 by omega]
                  case rest =>
                    obtain ⟨p4, rfl, hp34, hA, hw⟩ := hcut
                    rw [hw]
                    clear hw wc HA hip hpn HA2 HG3 HG
                    have HA : Hid (At V (Pl.aut 7) zs i p4 n) := hA
                    have hip := hA.1
                    have hpn := hA.2.1
                    clear hA
                    have hle := Pl.lead_le (zs.drop p4)
                    rw [List.length_drop, HT.out.len] at hle
                    by_cases hz : Pl.lead (zs.drop p4) = 0
                    · have HE : Hid (digEnd zs p4 = 0) := by show _ = _; unfold digEnd; rw [if_pos hz]
                      have HN : Hid (Pl.aut 7 (zs.drop p4) = none) := by show _ = _; rw [Pl.aut7, if_pos hz]
                      clear hz hle
                      go_wp2_with fail
                      refine (digits_any b off n cap zs _ p4 _ HT.out rfl hpn).mono ?_
                      rintro e w2 ⟨rfl, hw2⟩
                      rw [hw2, HE.out]
                      clear hw2 w2
                      go_wp2
                      go_ret
                      exact ⟨ret_int (by rw [HA.out.none HN.out]; rfl), rfl⟩
                    · obtain ⟨q, hq⟩ : ∃ q, q = digEnd zs p4 := ⟨_, rfl⟩
                      have hq2 : q = p4 + Pl.lead (zs.drop p4) := by rw [hq]; unfold digEnd; rw [if_neg hz]
                      have HQ := (show Hid _ from hq)
                      have hq3 : 0 < q := by omega
                      have hq4 : q ≤ n := by omega
                      have hq5 : p4 ≤ q := by omega
                      have HN : Hid (Pl.aut 7 (zs.drop p4) = ((fun _ => some 0 : List Int → Option Nat) (zs.drop q)).map (· + (q - p4))) := by
                        show _ = _
                        rw [Pl.aut7, if_neg hz]
                        show some _ = some (0 + (q - p4))
                        rw [show 0 + (q - p4) = Pl.lead (zs.drop p4) by omega]
                      have hb0 : ((q : Int) == 0) = false := beq_eq_false_iff_ne.2 (by omega)
                      clear hq hq2 hz hle
                      go_wp2_with fail
                      refine (digits_any b off n cap zs _ p4 _ HT.out rfl hpn).mono ?_
                      rintro e w2 ⟨rfl, hw2⟩
                      rw [hw2, ← HQ.out]
                      clear hw2 w2
                      go_wp2
                      go_meet
                      exact ⟨q, rfl, HA.out.next hq5 hq4 HN.out, rfl⟩
            case rest =>
              obtain ⟨p5, rfl, hA, hw⟩ := hcut
              rw [hw]
              clear hw wc HA hip hpn
              have HA : Hid (At V (fun _ => some 0) zs i p5 n) := hA
              clear hA
              go_wp2
              go_ret
              exact ⟨ret_int (by rw [HA.out.some rfl]; rfl), rfl⟩
end Go.Proofs.Qxb6621665a
