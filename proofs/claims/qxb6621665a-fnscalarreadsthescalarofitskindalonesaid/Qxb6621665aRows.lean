/-
  No cell of these rows narrows 'for every input' (looked for: loops, veiled, ifaces, maps, wideKeys, modest, calm, conditions, laid).
  DERIVED. THE GIVEN ROWS OF THIS SEAT. 3 by the template 'for every input the law returns true; each argument reads behind the call as it read before'; 0 by the template 'total and deterministic' (their statements: Qxb6621665aTotals.lean).
  GIVEN WITH THE SEED: the statements are not yours to turn. If you find one false, say at which input.
  Laid BY PROGRAM, IN A SANDBOX (cutbox-rows.mjs): the forced cells as the released guide's own fill.sh prints them over the translation 72099f1d5b5abf5f… (all of the seat's roots in one cut). By AI agents, Wed Nov 11 2026. No macro, syntax, notation, axiom, sorry.
-/
import Derived.Test.Qxb6621665aChecked
import GoSem.Claim
import GoSem.ClaimJoined
import GoSem.ClaimMapViews
import Derived.JoinedTies
import Derived.KernelRfl
namespace Go.Proofs.Qxb6621665a
/- THE CELL 'sum', in the pinned program and in every row, IS THE sha256 OF THE DUMP (.gsa) THAT Qxb6621665aProg.lean LOADS. Nothing in Lean hashes anything: it is a label: what it is worth is what the hold of that sum in a sandbox is worth. -/
noncomputable def Try.pinned : Pinned := { name := "qxb6621665a", sum := "72099f1d5b5abf5fbc91923e52ab0e04f80df9c860007058787ae1695b56180e", checked := Try.checked }
namespace Rows
def none {H : Type} : Left H := { results := [], args := [] }

/-- 'zzlaws_jsontape_b1.FnNumberEndsWhereTheTextStopsReadingAsANumber': WHATEVER THE INPUT: true; the input reads as it did. -/
def fnNumberEndsWhereTheTextStopsReadingAsANumberSpec : ChangeSpec := { name := "fnNumberEndsWhereTheTextStopsReadingAsANumber", fn := fun _ => fun
  | [d1, d2, d3] => { results := [.lit (.bool true)], args := [d1, d2, d3] }
  | _ => none }
def fnNumberEndsWhereTheTextStopsReadingAsANumberRow : OpenClaim := { program := "qxb6621665a", sum := "72099f1d5b5abf5fbc91923e52ab0e04f80df9c860007058787ae1695b56180e", func := "example.com/kelson/kelson/zzlaws_jsontape_b1.FnNumberEndsWhereTheTextStopsReadingAsANumber", spec := "fnNumberEndsWhereTheTextStopsReadingAsANumber", apart := false }
def FnNumberEndsWhereTheTextStopsReadingAsANumberSaid : Prop := fnNumberEndsWhereTheTextStopsReadingAsANumberRow.holds Try.pinned (OpenSpec.ofChange fnNumberEndsWhereTheTextStopsReadingAsANumberSpec)

/-- ITS FALSE NEIGHBOUR: 'it returns false'. Refute it at one input. -/
def fnNumberEndsWhereTheTextStopsReadingAsANumberWrong : ChangeSpec := { name := "fnNumberEndsWhereTheTextStopsReadingAsANumber", fn := fun _ => fun
  | [d1, d2, d3] => { results := [.lit (.bool false)], args := [d1, d2, d3] }
  | _ => none }
def FnNumberEndsWhereTheTextStopsReadingAsANumberWrongFalsely : Prop := fnNumberEndsWhereTheTextStopsReadingAsANumberRow.holds Try.pinned (OpenSpec.ofChange fnNumberEndsWhereTheTextStopsReadingAsANumberWrong)

/-- 'zzlaws_jsontape_b1.FnKindOfNamesWhatTheReadersRead': WHATEVER THE INPUT: true; the input reads as it did. -/
def fnKindOfNamesWhatTheReadersReadSpec : ChangeSpec := { name := "fnKindOfNamesWhatTheReadersRead", fn := fun _ => fun
  | [d] => { results := [.lit (.bool true)], args := [d] }
  | _ => none }
def fnKindOfNamesWhatTheReadersReadRow : OpenClaim := { program := "qxb6621665a", sum := "72099f1d5b5abf5fbc91923e52ab0e04f80df9c860007058787ae1695b56180e", func := "example.com/kelson/kelson/zzlaws_jsontape_b1.FnKindOfNamesWhatTheReadersRead", spec := "fnKindOfNamesWhatTheReadersRead", apart := false }
def FnKindOfNamesWhatTheReadersReadSaid : Prop := fnKindOfNamesWhatTheReadersReadRow.holds Try.pinned (OpenSpec.ofChange fnKindOfNamesWhatTheReadersReadSpec)

/-- ITS FALSE NEIGHBOUR: 'it returns false'. Refute it at one input. -/
def fnKindOfNamesWhatTheReadersReadWrong : ChangeSpec := { name := "fnKindOfNamesWhatTheReadersRead", fn := fun _ => fun
  | [d] => { results := [.lit (.bool false)], args := [d] }
  | _ => none }
def FnKindOfNamesWhatTheReadersReadWrongFalsely : Prop := fnKindOfNamesWhatTheReadersReadRow.holds Try.pinned (OpenSpec.ofChange fnKindOfNamesWhatTheReadersReadWrong)

/-- 'zzlaws_jsontape_b1.FnScalarReadsTheScalarOfItsKindAlone': WHATEVER THE INPUT: true; the input reads as it did. -/
def fnScalarReadsTheScalarOfItsKindAloneSpec : ChangeSpec := { name := "fnScalarReadsTheScalarOfItsKindAlone", fn := fun _ => fun
  | [d1, d2, d3] => { results := [.lit (.bool true)], args := [d1, d2, d3] }
  | _ => none }
def fnScalarReadsTheScalarOfItsKindAloneRow : OpenClaim := { program := "qxb6621665a", sum := "72099f1d5b5abf5fbc91923e52ab0e04f80df9c860007058787ae1695b56180e", func := "example.com/kelson/kelson/zzlaws_jsontape_b1.FnScalarReadsTheScalarOfItsKindAlone", spec := "fnScalarReadsTheScalarOfItsKindAlone", apart := false }
def FnScalarReadsTheScalarOfItsKindAloneSaid : Prop := fnScalarReadsTheScalarOfItsKindAloneRow.holds Try.pinned (OpenSpec.ofChange fnScalarReadsTheScalarOfItsKindAloneSpec)

/-- ITS FALSE NEIGHBOUR: 'it returns false'. Refute it at one input. -/
def fnScalarReadsTheScalarOfItsKindAloneWrong : ChangeSpec := { name := "fnScalarReadsTheScalarOfItsKindAlone", fn := fun _ => fun
  | [d1, d2, d3] => { results := [.lit (.bool false)], args := [d1, d2, d3] }
  | _ => none }
def FnScalarReadsTheScalarOfItsKindAloneWrongFalsely : Prop := fnScalarReadsTheScalarOfItsKindAloneRow.holds Try.pinned (OpenSpec.ofChange fnScalarReadsTheScalarOfItsKindAloneWrong)

end Rows
end Go.Proofs.Qxb6621665a
