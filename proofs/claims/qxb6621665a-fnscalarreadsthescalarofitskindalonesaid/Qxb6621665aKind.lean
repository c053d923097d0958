import Derived.Test.Qxb6621665aRows
import Derived.WalkKit
import Derived.ProofKit
import Derived.Below
namespace Go.Proofs.Qxb6621665a
open Go.ChangeShapes Go.WideShapes Go.ChangeAt Go.RowKit

theorem ret_int {k : IntKind} {a b : Int} (h : a = b) : Ending.returned (.int k a) = .returned (.int k b) := by rw [h]

/-- The kind of a first byte. -/
def kindF (c : Int) : Int :=
  if c = 123 then 6 else if c = 91 then 5 else if c = 34 then 4 else if c = 45 ∨ (48 ≤ c ∧ c ≤ 57) then 3
  else if c = 116 ∨ c = 102 then 2 else if c = 110 then 1 else 0

set_option maxHeartbeats 400000 in
theorem kindOf_any (c : Int) (w : World) (h0 : 0 ≤ c) (h1 : c ≤ 255) :
    Calls Try.prog 16 #[.int .u8 c] w fun e w' => e = .returned (.int .u8 (kindF c)) ∧ w' = w := by
  go_enter Try.func16, Try.ntmps16
  go_wp2
  all_goals
    go_ret
    refine ⟨ret_int ?_, rfl⟩
    simp only [beq_iff_eq, beq_eq_false_iff_ne, ne_eq] at *
    unfold kindF
    repeat' split
    all_goals omega
end Go.Proofs.Qxb6621665a
