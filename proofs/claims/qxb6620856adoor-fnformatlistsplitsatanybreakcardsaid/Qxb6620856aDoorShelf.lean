/-
  THE SHELF AT THIS DUMP, IN PLAIN WORDS: the three contracts of the library that this seat's walks use (laid by the kit's lay-shelf.mjs and lay-plain.mjs at this dump; cut down to what is used).
-/
import Derived.Shelf.Strings.Builder1
import Derived.Shelf.LaysM
import Derived.Shelf.Strconv.Itoa3
import Derived.Test.Qxb6620856aDoorRows
/-- The table's name, as the row lists it. -/
def Go.Proofs.Qxb6620856aDoor.tabName : String := (Go.Proofs.Qxb6620856aDoor.Rows.fnFormatListMatchesRunByRunModelRow.named.getD 0 "")
namespace Go.Proofs
open Go.Shelf
def Tryd.lays170_ren : Go.Shelf.Ren := ⟨fun | 170 => 16 | n => n, fun | 70 => 31 | 3 => 3 | 0 => 0 | 72 => 33 | 37 => 26 | 5 => 5 | n => n, fun | n => n⟩
theorem Tryd.lays170 : Go.Proofs.Lays.n170 Tryd.prog Tryd.lays170_ren := {
  mixed := by kernel_rfl
  f170 := Tryd.func16.trans (congrArg some (by kernel_rfl))
  t0 := Tryd.underlying0
  a0 := Tryd.isAgg0
  z0 := Tryd.sizeOf0
  v0 := Tryd.zeroValue0
  t3 := Tryd.underlying3
  a3 := Tryd.isAgg3
  z3 := Tryd.sizeOf3
  v3 := Tryd.zeroValue3
  t37 := Tryd.underlying26
  a37 := Tryd.isAgg26
  z37 := Tryd.sizeOf26
  v37 := Tryd.zeroValue26
  t70 := Tryd.underlying31
  a70 := Tryd.isAgg31
  z70 := Tryd.sizeOf31
  v70 := Tryd.zeroValue31
  t72 := Tryd.underlying33
  a72 := Tryd.isAgg33
  z72 := Tryd.sizeOf33
  v72 := Tryd.zeroValue33 }
open Go.RowKit in
theorem Tryd.Builder_Len (B b : Nat) (bs : List Value) (w : World) (h : Lib.IsBuilder 33 5 B b bs w) :
    Calls Tryd.prog 16 #[.pointer (some ⟨b, 0, none⟩)] w fun e w' => e = .returned (.int .i64 bs.length) ∧ w' = w := Any.Builder_Len Tryd.lays170 B b bs w h
def Tryd.lays169_ren : Go.Shelf.Ren := ⟨fun | 169 => 20 | n => n, fun | 70 => 31 | 9 => 9 | 0 => 0 | 72 => 33 | 37 => 26 | 127 => 42 | 3 => 3 | 5 => 5 | n => n, fun | n => n⟩
theorem Tryd.lays169 : Go.Proofs.Lays.n169 Tryd.prog Tryd.lays169_ren := {
  mixed := by kernel_rfl
  f169 := Tryd.func20.trans (congrArg some (by kernel_rfl))
  t0 := Tryd.underlying0
  a0 := Tryd.isAgg0
  z0 := Tryd.sizeOf0
  v0 := Tryd.zeroValue0
  t3 := Tryd.underlying3
  a3 := Tryd.isAgg3
  z3 := Tryd.sizeOf3
  v3 := Tryd.zeroValue3
  t9 := Tryd.underlying9
  a9 := Tryd.isAgg9
  z9 := Tryd.sizeOf9
  v9 := Tryd.zeroValue9
  t37 := Tryd.underlying26
  a37 := Tryd.isAgg26
  z37 := Tryd.sizeOf26
  v37 := Tryd.zeroValue26
  t70 := Tryd.underlying31
  a70 := Tryd.isAgg31
  z70 := Tryd.sizeOf31
  v70 := Tryd.zeroValue31
  t72 := Tryd.underlying33
  a72 := Tryd.isAgg33
  z72 := Tryd.sizeOf33
  v72 := Tryd.zeroValue33
  t127 := Tryd.underlying42
  a127 := Tryd.isAgg42
  z127 := Tryd.sizeOf42
  v127 := Tryd.zeroValue42 }
theorem Tryd.Builder_Extra_169 : Builder.Extra Tryd.prog Tryd.lays169_ren := {
  sizeBuilder := by kernel_rfl
  liesBuilder := by kernel_rfl
  t5 := Tryd.underlying5
  a5 := Tryd.isAgg5
  z5 := Tryd.sizeOf5
  v5 := Tryd.zeroValue5
  infoByte := by kernel_rfl
  cellsByte := by kernel_rfl
  sizeByte := by kernel_rfl
  neB5 := by decide }
open Go.RowKit in
theorem Tryd.Builder_String_any (B b : Nat) (l : List UInt8) (w : World) (h : Lib.IsBuilder 33 5 B b (Lib.byteCells l) w) (hBw : B ≤ w.heap.size) :
    Calls Tryd.prog 20 #[.pointer (some ⟨b, 0, none⟩)] w fun e w' => e = .returned (.string ⟨l.toArray⟩) ∧ Below B w w' := Any.Builder_String_any Tryd.lays169 Tryd.Builder_Extra_169 B b l w h hBw
def Tryd.laysM171_ren : Go.Shelf.Ren := ⟨fun | 171 => 19 | 243 => 24 | 246 => 28 | 283 => 38 | 284 => 39 | 285 => 40 | 286 => 41 | 129 => 52 | 317 => 51 | 318 => 53 | 319 => 54 | 320 => 55 | 337 => 62 | 338 => 63 | n => n, fun | 3 => 3 | 9 => 9 | 2 => 2 | 4 => 4 | 171 => 44 | 0 => 0 | 53 => 57 | 37 => 26 | 5 => 5 | 173 => 60 | 212 => 74 | 51 => 75 | 20 => 20 | 213 => 76 | 46 => 43 | 232 => 98 | 233 => 99 | n => n, fun | 17 => 0 | 18 => 5 | 19 => 6 | n => n⟩
theorem Tryd.laysM171 : Go.Proofs.LaysM.n171 Tryd.prog Tryd.laysM171_ren := {
  mixed := by kernel_rfl
  f129 := Tryd.func52.trans (congrArg some (by kernel_rfl))
  f171 := Tryd.func19.trans (congrArg some (by kernel_rfl))
  f243 := Tryd.func24.trans (congrArg some (by kernel_rfl))
  f246 := Tryd.func28.trans (congrArg some (by kernel_rfl))
  f283 := Tryd.func38.trans (congrArg some (by kernel_rfl))
  f284 := Tryd.func39.trans (congrArg some (by kernel_rfl))
  f285 := Tryd.func40.trans (congrArg some (by kernel_rfl))
  f286 := Tryd.func41.trans (congrArg some (by kernel_rfl))
  f317 := Tryd.func51.trans (congrArg some (by kernel_rfl))
  f318 := Tryd.func53.trans (congrArg some (by kernel_rfl))
  f319 := Tryd.func54.trans (congrArg some (by kernel_rfl))
  f320 := Tryd.func55.trans (congrArg some (by kernel_rfl))
  f337 := Tryd.func62.trans (congrArg some (by kernel_rfl))
  f338 := Tryd.func63.trans (congrArg some (by kernel_rfl))
  t0 := Tryd.underlying0
  a0 := Tryd.isAgg0
  z0 := Tryd.sizeOf0
  v0 := Tryd.zeroValue0
  t2 := Tryd.underlying2
  a2 := Tryd.isAgg2
  z2 := Tryd.sizeOf2
  v2 := Tryd.zeroValue2
  t3 := Tryd.underlying3
  a3 := Tryd.isAgg3
  z3 := Tryd.sizeOf3
  v3 := Tryd.zeroValue3
  t4 := Tryd.underlying4
  a4 := Tryd.isAgg4
  z4 := Tryd.sizeOf4
  v4 := Tryd.zeroValue4
  t5 := Tryd.underlying5
  a5 := Tryd.isAgg5
  z5 := Tryd.sizeOf5
  v5 := Tryd.zeroValue5
  t9 := Tryd.underlying9
  a9 := Tryd.isAgg9
  z9 := Tryd.sizeOf9
  v9 := Tryd.zeroValue9
  t20 := Tryd.underlying20
  a20 := Tryd.isAgg20
  z20 := Tryd.sizeOf20
  v20 := Tryd.zeroValue20
  t37 := Tryd.underlying26
  a37 := Tryd.isAgg26
  z37 := Tryd.sizeOf26
  v37 := Tryd.zeroValue26
  t46 := Tryd.underlying43
  a46 := Tryd.isAgg43
  z46 := Tryd.sizeOf43
  v46 := Tryd.zeroValue43
  t51 := Tryd.underlying75
  a51 := Tryd.isAgg75
  z51 := Tryd.sizeOf75
  v51 := Tryd.zeroValue75
  t53 := Tryd.underlying57
  a53 := Tryd.isAgg57
  z53 := Tryd.sizeOf57
  v53 := Tryd.zeroValue57
  t171 := Tryd.underlying44
  a171 := Tryd.isAgg44
  z171 := Tryd.sizeOf44
  v171 := Tryd.zeroValue44
  t173 := Tryd.underlying60
  a173 := Tryd.isAgg60
  z173 := Tryd.sizeOf60
  v173 := Tryd.zeroValue60
  t212 := Tryd.underlying74
  a212 := Tryd.isAgg74
  z212 := Tryd.sizeOf74
  v212 := Tryd.zeroValue74
  t213 := Tryd.underlying76
  a213 := Tryd.isAgg76
  z213 := Tryd.sizeOf76
  t232 := Tryd.underlying98
  a232 := Tryd.isAgg98
  z232 := Tryd.sizeOf98
  v232 := Tryd.zeroValue98
  t233 := Tryd.underlying99
  a233 := Tryd.isAgg99
  z233 := Tryd.sizeOf99
  v233 := Tryd.zeroValue99
  g17 := by kernel_rfl
  g18 := by kernel_rfl
  g19 := by kernel_rfl
  i0 := by kernel_rfl
  i2 := by kernel_rfl
  i3 := by kernel_rfl
  i4 := by kernel_rfl
  i5 := by kernel_rfl
  i9 := by kernel_rfl
  i20 := by kernel_rfl
  i37 := by kernel_rfl
  i46 := by kernel_rfl
  i51 := by kernel_rfl
  i53 := by kernel_rfl
  i171 := by kernel_rfl
  i173 := by kernel_rfl
  i212 := by kernel_rfl
  i232 := by kernel_rfl
  i233 := by kernel_rfl
  m17 := by kernel_rfl
  m18 := by kernel_rfl
  m19 := by kernel_rfl }
open Go.RowKit Go.Sort Go.Lib in
theorem Tryd.strconv_Itoa (n : Int) (h0 : -9223372036854775808 ≤ n) (h1 : n ≤ 9223372036854775807) (w : World) (htab : Lib.TabIs Tryd.prog w Go.Proofs.Qxb6620856aDoor.tabName .u64 Lib.pow10Tab) :
    Calls Tryd.prog 19 #[.int .i64 n] w fun e w' => e = .returned (.string ⟨(Lib.itoa n).toArray⟩) ∧ ∃ k os, w' = grow (w.drewN k) os := Any.strconv_Itoa Tryd.laysM171 n h0 h1 w htab
end Go.Proofs
