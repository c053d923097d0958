/-
  No cell of these rows narrows 'for every input' (looked for: loops, veiled, ifaces, maps, wideKeys, modest, calm, conditions, laid).
  DERIVED. THE GIVEN ROWS OF THIS SEAT. 2 by the template 'for every input the law returns true; each argument reads behind the call as it read before'; 0 by the template 'total and deterministic' (their statements: Qxb6621717aTotals.lean).
  GIVEN WITH THE SEED: the statements are not yours to turn. If you find one false, say at which input.
  Laid BY PROGRAM, IN A SANDBOX (cutbox-rows.mjs): the forced cells as the released guide's own fill.sh prints them over the translation 677b73b857473731… (all of the seat's roots in one cut). By AI agents, Wed Nov 11 2026. No macro, syntax, notation, axiom, sorry.
-/
import Derived.Test.Qxb6621717aChecked
import GoSem.Claim
import GoSem.ClaimJoined
import GoSem.ClaimMapViews
import Derived.JoinedTies
import Derived.KernelRfl
namespace Go.Proofs.Qxb6621717a
/- THE CELL 'sum', in the pinned program and in every row, IS THE sha256 OF THE DUMP (.gsa) THAT Qxb6621717aProg.lean LOADS. Nothing in Lean hashes anything: it is a label: what it is worth is what the hold of that sum in a sandbox is worth. -/
noncomputable def Try.pinned : Pinned := { name := "qxb6621717a", sum := "677b73b857473731c6120fc891d70598dc029b7b1ef64c4830a72f13532ea174", checked := Try.checked }
namespace Rows
def none {H : Type} : Left H := { results := [], args := [] }

/-- 'zzlaws_userstring_b1.FnHasKeyInsertedKeyIsFound': WHATEVER THE INPUT: true; the input reads as it did. -/
def fnHasKeyInsertedKeyIsFoundSpec : ChangeSpec := { name := "fnHasKeyInsertedKeyIsFound", fn := fun _ => fun
  | [d1, d2, d3, d4, d5] => { results := [.lit (.bool true)], args := [d1, d2, d3, d4, d5] }
  | _ => none }
def fnHasKeyInsertedKeyIsFoundRow : OpenClaim := { program := "qxb6621717a", sum := "677b73b857473731c6120fc891d70598dc029b7b1ef64c4830a72f13532ea174", func := "example.com/moorage/moorage/zzlaws_userstring_b1.FnHasKeyInsertedKeyIsFound", spec := "fnHasKeyInsertedKeyIsFound", apart := false }
def FnHasKeyInsertedKeyIsFoundSaid : Prop := fnHasKeyInsertedKeyIsFoundRow.holds Try.pinned (OpenSpec.ofChange fnHasKeyInsertedKeyIsFoundSpec)

/-- ITS FALSE NEIGHBOUR: 'it returns false'. Refute it at one input. -/
def fnHasKeyInsertedKeyIsFoundWrong : ChangeSpec := { name := "fnHasKeyInsertedKeyIsFound", fn := fun _ => fun
  | [d1, d2, d3, d4, d5] => { results := [.lit (.bool false)], args := [d1, d2, d3, d4, d5] }
  | _ => none }
def FnHasKeyInsertedKeyIsFoundWrongFalsely : Prop := fnHasKeyInsertedKeyIsFoundRow.holds Try.pinned (OpenSpec.ofChange fnHasKeyInsertedKeyIsFoundWrong)

/-- 'zzlaws_userstring_b1.FnHasKeyCutAndRemoval': WHATEVER THE INPUT: true; the input reads as it did. -/
def fnHasKeyCutAndRemovalSpec : ChangeSpec := { name := "fnHasKeyCutAndRemoval", fn := fun _ => fun
  | [d1, d2, d3] => { results := [.lit (.bool true)], args := [d1, d2, d3] }
  | _ => none }
def fnHasKeyCutAndRemovalRow : OpenClaim := { program := "qxb6621717a", sum := "677b73b857473731c6120fc891d70598dc029b7b1ef64c4830a72f13532ea174", func := "example.com/moorage/moorage/zzlaws_userstring_b1.FnHasKeyCutAndRemoval", spec := "fnHasKeyCutAndRemoval", apart := false }
def FnHasKeyCutAndRemovalSaid : Prop := fnHasKeyCutAndRemovalRow.holds Try.pinned (OpenSpec.ofChange fnHasKeyCutAndRemovalSpec)

/-- ITS FALSE NEIGHBOUR: 'it returns false'. Refute it at one input. -/
def fnHasKeyCutAndRemovalWrong : ChangeSpec := { name := "fnHasKeyCutAndRemoval", fn := fun _ => fun
  | [d1, d2, d3] => { results := [.lit (.bool false)], args := [d1, d2, d3] }
  | _ => none }
def FnHasKeyCutAndRemovalWrongFalsely : Prop := fnHasKeyCutAndRemovalRow.holds Try.pinned (OpenSpec.ofChange fnHasKeyCutAndRemovalWrong)

end Rows
end Go.Proofs.Qxb6621717a
