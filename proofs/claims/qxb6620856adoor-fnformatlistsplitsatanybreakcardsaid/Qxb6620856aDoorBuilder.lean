/-
  strings.Builder's writers over this seat's dump: copyCheck, WriteByte, WriteString, walked here: in this dump copyCheck's panic is a 'refuse', so the shelf's layings do not fit. The builder is one that the call has made ('Lib.IsBuilder').
-/
import Derived.Test.Qxb6620856aDoorModel
import Derived.Test.Qxb6620856aDoorShelf
import Derived.Lib.AppendIntMem
namespace Go.Proofs.Qxb6620856aDoor
open Go.ChangeShapes Go.WideShapes Go.ChangeAt Go.RowKit

theorem size33 : (Tryd.prog.info? 33).map (fun j => j.size) = some 2 := by kernel_rfl
theorem lies33 : liesAt Tryd.prog Tryd.prog.depth 33 (2 / Tryd.prog.cellsOf 33) 0 33 1 = true := by kernel_rfl

/-! The pointer's way through the library's raw pointer and back: the address as it is. -/
theorem pure_to {α β : Type} (x : α) (f : α → Sem β) : (pure x : Sem α).bind f = f x := rfl
theorem to_raw (b : Nat) (w : World) (hsh : w.shape? b = some (33, 2)) : (convert 31 46 (.pointer (some ⟨b, 0, none⟩))).run Tryd.prog w = .ok (.pointer (some ⟨b, 0, none⟩)) w := by
  obtain ⟨j, hj, hjs⟩ := Option.map_eq_some_iff.1 size33
  have e1 := run_underlying (w := w) Tryd.underlying31
  have e2 := run_underlying (w := w) Tryd.underlying46
  have hjz : ¬ j.size = 0 := by omega
  simp only [convert, e1, e2, Sem.run_bind, Result.andThen_ok]
  show Sem.run Tryd.prog (Sem.program _) w = _
  simp only [Sem.run, Sem.bind, Tryd.underlying31, pure_to]
  simp [e2, Conv.seenAt, viewAt, cellsIn, hsh, sizeOf, typeInfo, hj, hjz]

theorem from_raw (b : Nat) (w : World) (hsh : w.shape? b = some (33, 2)) : (convert 46 31 (.pointer (some ⟨b, 0, none⟩))).run Tryd.prog w = .ok (.pointer (some ⟨b, 0, none⟩)) w := by
  obtain ⟨j, hj, hjs⟩ := Option.map_eq_some_iff.1 size33
  have e1 := run_underlying (w := w) Tryd.underlying31
  have e2 := run_underlying (w := w) Tryd.underlying46
  simp only [convert, e1, e2, Sem.run_bind, Result.andThen_ok]
  show Sem.run Tryd.prog (Sem.program _) w = _
  simp only [Sem.run, Sem.bind, Tryd.underlying46, pure_to]
  simp [e1, Conv.seenAt, viewAt, hsh, sizeOf, typeInfo, hj, variablesAt, lies33]
/-- A builder stays one behind a call that leaves what lies below the heap's end. -/
theorem builder_below {T e B b : Nat} {bs : List Value} {w w1 : World} (h : Lib.IsBuilder T e B b bs w) (hb : Below w.heap.size w w1) : Lib.IsBuilder T e B b bs w1 := by
  have key : ∀ p, Lib.BuilderAt T e B b p bs w → Lib.BuilderAt T e B b p bs w1 := by
    intro p hp
    have hlt := hp.lt
    obtain ⟨h1, v, h2, h3, h4⟩ := hp
    exact ⟨h1, v, (hb.block b hlt).trans h2, owns_below h3 hb, h4⟩
  rcases h with h | h
  · exact .inl (key _ h)
  · exact .inr (key _ h)

set_option maxHeartbeats 1000000 in
set_option maxRecDepth 100000 in
theorem check_used (b : Nat) (w : World) (h0 : w.cell? ⟨b, 0, none⟩ = some (.pointer (some ⟨b, 0, none⟩))) :
    Calls Tryd.prog 23 #[.pointer (some ⟨b, 0, none⟩)] w fun e w' => e = .returned (.tuple #[]) ∧ w' = w := by
  obtain ⟨j, hj, _⟩ := Option.map_eq_some_iff.1 size33
  have hne := Lib.run_neq_ptr_same (P := Tryd.prog) w ⟨b, 0, none⟩ Tryd.underlying31 hj
  go_enter Tryd.func23, Tryd.ntmps23
  go_wp2
  go_end0
  exact ⟨rfl, rfl⟩

set_option maxHeartbeats 1000000 in
set_option maxRecDepth 100000 in
theorem check_fresh (b : Nat) (w : World) (h0 : w.cell? ⟨b, 0, none⟩ = some (.pointer none)) (hsh : w.shape? b = some (33, 2)) (hfz : w.frozen? ⟨b, 0, none⟩ = false) :
    Calls Tryd.prog 23 #[.pointer (some ⟨b, 0, none⟩)] w fun e w' => e = .returned (.tuple #[]) ∧ w' = w.setCell ⟨b, 0, none⟩ (.pointer (some ⟨b, 0, none⟩)) := by
  have hto := to_raw b w hsh
  have hfrom := from_raw b w hsh
  have hno : (callFunc 27 #[.pointer (some ⟨b, 0, none⟩)]).run Tryd.prog w = .ok (.value (.pointer (some ⟨b, 0, none⟩))) w := by
    rw [run_callFunc_extern Tryd.func27 (by kernel_rfl) (by kernel_rfl) (by kernel_rfl) (e := Extern.AbiNoEscape.same) (by kernel_rfl), Lib.run_noEscape]
    rfl
  go_enter Tryd.func23, Tryd.ntmps23
  go_wp2
  go_end0
  exact ⟨rfl, rfl⟩

theorem copyCheck_any (B b : Nat) (bs : List Value) (w : World) (h : Lib.IsBuilder 33 5 B b bs w) :
    Calls Tryd.prog 23 #[.pointer (some ⟨b, 0, none⟩)] w fun e w' => e = .returned (.tuple #[]) ∧ Lib.BuilderAt 33 5 B b (.pointer (some ⟨b, 0, none⟩)) bs w' ∧ Below B w w' := by
  rcases h with h | h
  · refine (check_fresh b w h.cell0 h.shape h.frozen0).mono ?_
    rintro e w' ⟨rfl, rfl⟩
    exact ⟨rfl, h.used _, (Below.refl B w).setCell (p := ⟨b, 0, none⟩) h.1 _⟩
  · refine (check_used b w h.cell0).mono ?_
    rintro e w' ⟨rfl, rfl⟩
    exact ⟨rfl, h, Below.refl B _⟩

set_option maxHeartbeats 1000000 in
set_option maxRecDepth 100000 in
theorem writeByte_any (B b : Nat) (bs : List Value) (c : Int) (w : World) (h : Lib.IsBuilder 33 5 B b bs w) (hlen : bs.length ≤ 4000000) (hBw : B ≤ w.heap.size) :
    Calls Tryd.prog 17 #[.pointer (some ⟨b, 0, none⟩), .int .u8 c] w fun e w' => e = .returned .nilIface ∧ Lib.IsBuilder 33 5 B b (bs ++ [.int .u8 c]) w' ∧ Below B w w' := by
  obtain ⟨i0, hi, hz0, hz1, hz2⟩ := info_parts Tryd.info5
  go_enter Tryd.func17, Tryd.ntmps17
  go_wp2_with fail
  refine (copyCheck_any B b bs _ h).mono ?_
  rintro e w1 ⟨rfl, h1, hb1⟩
  have hlt := h1.lt
  have hsz := hb1.size
  obtain ⟨hB, v, hbk, hown, hne⟩ := h1
  have c1 : w1.cell? ⟨b, 1, none⟩ = some v := by rw [Lib.cell_of_heap hbk]; rfl
  have HO : Hid (w1.ownsRow B 5 1 v bs.length bs) := hown
  have HN : Hid (v.ownBlock ≠ some b) := hne
  have HK : Hid (w1.heap[b]? = some (.cells #[.pointer (some ⟨b, 0, none⟩), v] 33 (0, 0))) := hbk
  clear hown hne hbk h
  go_wp2_with (at_builtin; refine wpList_append_own _ rfl _ _ 26 rfl B 5 i0 (.int .u8 0) 1 1 Tryd.underlying26 hi hz0 hz1 hz2 rfl (by decide) _ _ _ rfl (HO.out.alloc _) ⟨w1.heap.size, 0, none⟩ 1 1 [.int .u8 c] rfl rfl (one_new _ _ _) (one_cell _) ?c3 ?c4 ?c5 ?_)
  case c3 => unfold maxLen; omega
  case c4 => omega
  case c5 => simp; omega
  intro v' w2 hown' hgrow _
  have hb2 : w2.heap[b]? = some (.cells #[.pointer (some ⟨b, 0, none⟩), v] 33 (0, 0)) := by
    rw [hgrow.block b (by simp; omega) (fun e => HN.out e.symm), Lib.alloc_old w1 _ b hlt]
    exact HK.out
  have d1 : w2.cell? ⟨b, 1, none⟩ = some v := by rw [Lib.cell_of_heap hb2]; rfl
  have f1 : w2.frozen? ⟨b, 1, none⟩ = false := Lib.frozen_of_heap hb2 1
  obtain ⟨g, cap, rfl⟩ : ∃ g cap, v' = .slice (some ⟨g, 0, none⟩) (bs.length + 1) cap := by
    rcases hown'.2 with ⟨_, h0⟩ | ⟨g, cap, cur, hv, _⟩
    · omega
    · exact ⟨g, cap, hv⟩
  have HR : Hid (Lib.IsBuilder 33 5 B b (bs ++ [.int .u8 c]) (w2.setCell ⟨b, 1, none⟩ (.slice (some ⟨g, 0, none⟩) (bs.length + 1) cap))) :=
    .inr (Lib.BuilderAt.put hB hb2 (bs' := bs ++ [.int .u8 c]) (by simpa using hown') (by decide))
  have HB : Hid (Below B w (w2.setCell ⟨b, 1, none⟩ (.slice (some ⟨g, 0, none⟩) (bs.length + 1) cap))) :=
    ((hb1.alloc (by omega) _).grown hgrow (by simp; omega) (fun k hk => (HO.out.lt k hk).1)).setCell (p := ⟨b, 1, none⟩) hB _
  clear hown' hgrow hb2 hb1
  go_wp2
  go_ret
  exact ⟨rfl, HR.out, HB.out⟩

set_option maxHeartbeats 1000000 in
set_option maxRecDepth 100000 in
theorem writeString_any (B b : Nat) (bs : List Value) (s : ByteArray) (w : World) (h : Lib.IsBuilder 33 5 B b bs w) (hlen : bs.length ≤ 4000000) (hs : s.size ≤ 100) (hBw : B ≤ w.heap.size) :
    Calls Tryd.prog 18 #[.pointer (some ⟨b, 0, none⟩), .string s] w fun e w' => e = .returned (.tuple #[.int .i64 s.size, .nilIface]) ∧ Lib.IsBuilder 33 5 B b (bs ++ Lib.strCells s) w' ∧ Below B w w' := by
  obtain ⟨i0, hi, hz0, hz1, hz2⟩ := info_parts Tryd.info5
  go_enter Tryd.func18, Tryd.ntmps18
  go_wp2_with fail
  refine (copyCheck_any B b bs _ h).mono ?_
  rintro e w1 ⟨rfl, h1, hb1⟩
  have hlt := h1.lt
  have hsz := hb1.size
  obtain ⟨hB, v, hbk, hown, hne⟩ := h1
  have c1 : w1.cell? ⟨b, 1, none⟩ = some v := by rw [Lib.cell_of_heap hbk]; rfl
  have HO : Hid (w1.ownsRow B 5 1 v bs.length bs) := hown
  have HN : Hid (v.ownBlock ≠ some b) := hne
  have HK : Hid (w1.heap[b]? = some (.cells #[.pointer (some ⟨b, 0, none⟩), v] 33 (0, 0))) := hbk
  clear hown hne hbk h
  go_wp2_with (at_builtin; refine Lib.wpList_append_own_string _ rfl _ _ 26 9 rfl B 5 i0 Tryd.underlying26 Tryd.underlying9 hi hz0 hz1 hz2 _ _ _ rfl HO.out s rfl ?c3 ?c4 ?c5 ?_)
  case c3 => unfold maxLen; omega
  case c4 => omega
  case c5 => omega
  intro v' w2 hown' hgrow _
  have hb2 : w2.heap[b]? = some (.cells #[.pointer (some ⟨b, 0, none⟩), v] 33 (0, 0)) := by
    rw [hgrow.block b hlt (fun e => HN.out e.symm)]
    exact HK.out
  have d1 : w2.cell? ⟨b, 1, none⟩ = some v := by rw [Lib.cell_of_heap hb2]; rfl
  have f1 : w2.frozen? ⟨b, 1, none⟩ = false := Lib.frozen_of_heap hb2 1
  obtain ⟨ao, n', cap, rfl⟩ : ∃ ao n' cap, v' = .slice ao n' cap := by
    rcases hown'.2 with ⟨hv, _⟩ | ⟨g, cap, cur, hv, _⟩
    · exact ⟨_, _, _, hv⟩
    · exact ⟨_, _, _, hv⟩
  have HR : Hid (Lib.IsBuilder 33 5 B b (bs ++ Lib.strCells s) (w2.setCell ⟨b, 1, none⟩ (.slice ao n' cap))) :=
    .inr (Lib.BuilderAt.put hB hb2 (bs' := bs ++ Lib.strCells s) (by simpa [Lib.strCells_length] using hown') (by decide))
  have HB : Hid (Below B w (w2.setCell ⟨b, 1, none⟩ (.slice ao n' cap))) :=
    (hb1.grown hgrow (by omega) (fun k hk => (HO.out.lt k hk).1)).setCell (p := ⟨b, 1, none⟩) hB _
  clear hown' hgrow hb2 hb1
  go_wp2
  go_ret2
  exact ⟨rfl, HR.out, HB.out⟩
end Go.Proofs.Qxb6620856aDoor
