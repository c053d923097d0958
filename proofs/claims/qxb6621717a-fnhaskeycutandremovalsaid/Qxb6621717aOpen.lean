/-
  How the list of segments comes in.
-/
import Derived.Test.Qxb6621717aIns
import Derived.OpenShut
import Derived.ShutString
import Derived.ChangeOld
import Derived.Deep.SlicePairs
namespace Go.Proofs.Qxb6621717a
open Go.ChangeShapes Go.WideShapes Go.ChangeAt Go.RowKit

theorem own : ownKnob Try.prog.godebug = none := by kernel_rfl
theorem laidOut : laidOutB Try.prog = true := by kernel_rfl

/-- The text of a string's cell. -/
def strOf : Value → ByteArray
  | .string s => s
  | _ => ⟨#[]⟩

theorem add_flat (b off k : Nat) : (⟨b, off, none⟩ : Addr).add k = ⟨b, off + k, none⟩ := by
  by_cases h : k = 0
  · subst h; simp [Addr.add]
  · simp [Addr.add, h]
theorem arg_of_trod {H : Type} {enc : TypeId × Value → H} {W : World} {p : Option Addr} {n cap : Nat} {d : DataW H} {ps : List MemPlace}
    (h : DataW.Trod enc Try.prog W 0 (fun _ => true) true 22 (.slice p n cap) d ps) :
    ∃ K V, Arg p n cap K V W ∧ n ≤ maxLen ∧ ∀ j, j < n → (K j).size ≤ maxLen ∧ (V j).size ≤ maxLen := by
  obtain ⟨fuel, hf⟩ := h
  rcases Deep.open_slice_pairs Try.underlying22 Try.underlying25 (by kernel_rfl) rfl rfl (by kernel_rfl) (by kernel_rfl) hf with ⟨hcs, _⟩ | ⟨a, l, c, m, k, V0, V1, D0, D1, P0, P1, hcs, _, hl, hm, hmm, _, hall⟩
  · simp [Value.cells] at hcs
    obtain ⟨rfl, rfl, rfl⟩ := hcs
    exact ⟨fun _ => ⟨#[]⟩, fun _ => ⟨#[]⟩, .inl ⟨rfl, rfl, rfl⟩, by unfold maxLen; omega, fun j hj => by omega⟩
  · simp [Value.cells] at hcs
    obtain ⟨rfl, rfl, rfl⟩ := hcs
    have hm2 : m = cap := by rw [hmm]; simp
    subst hm2
    have key : ∀ j, j < n → V0 j = .string (strOf (V0 j)) ∧ (strOf (V0 j)).size ≤ maxLen ∧ V1 j = .string (strOf (V1 j)) ∧ (strOf (V1 j)).size ≤ maxLen := by
      intro j hj
      obtain ⟨_, _, t0, t1⟩ := hall j (by omega)
      obtain ⟨s0, e0, _, z0⟩ := DataW.trod_string Try.underlying9 t0
      obtain ⟨s1, e1, _, z1⟩ := DataW.trod_string Try.underlying9 t1
      injection e0 with e0
      injection e1 with e1
      rw [e0, e1]
      exact ⟨rfl, z0, rfl, z1⟩
    refine ⟨fun j => strOf (V0 j), fun j => strOf (V1 j), .inr ⟨a, rfl, ?_⟩, by omega, fun j hj => ⟨(key j hj).2.1, (key j hj).2.2.2⟩⟩
    by_cases h0 : n = 0
    · exact .inl h0
    · have hc0 := (hall 0 (by omega)).1
      have hsp : a.spot = none := World.cell?_spot hc0
      obtain ⟨b, off, sp⟩ := a
      simp only at hsp
      subst hsp
      refine .inr ⟨b, off, rfl, by simpa [Addr.add] using block_lt_of_cell hc0, ⟨fun j hj => ?_, fun j hj => ?_⟩⟩
      · rw [← (key j hj).1, ← add_flat]; exact (hall j (by omega)).1
      · rw [← (key j hj).2.2.1, Nat.add_assoc, ← add_flat]; exact (hall j (by omega)).2.1
end Go.Proofs.Qxb6621717a
