/-
  THE LIBRARY's CONTRACTS THAT THIS SEAT USES, LAID AT THIS DUMP BY THE SHELF's TOOLS (lay-shelf.mjs, lay-plain.mjs): (*strings.Builder).String and strconv.Itoa. The other layings that the tools write are struck here. The table's name is taken off the given row.
-/
import Derived.Shelf.Strings.BuilderK
import Derived.Shelf.LaysM
import Derived.Shelf.Strconv.Itoa3
import Derived.Test.Qxb6628890aDoorRows
namespace Go.Proofs.Qxb6628890aDoor
open Go.Shelf
/-- the table's name, off the given row's own cell -/
def tabName : String := Rows.fnURIStringCutsAtAnyParamRow.named.headD default
def Tryd.lays169_ren : Go.Shelf.Ren := ⟨fun | 169 => 17 | n => n, fun | 70 => 41 | 9 => 9 | 0 => 0 | 72 => 43 | 37 => 40 | 127 => 48 | 3 => 3 | 5 => 5 | n => n, fun | n => n⟩
theorem Tryd.lays169 : Go.Proofs.Lays.n169 Tryd.prog Tryd.lays169_ren := {
  mixed := by kernel_rfl
  f169 := Tryd.func17.trans (congrArg some (by kernel_rfl))
  t0 := Tryd.underlying0
  a0 := Tryd.isAgg0
  z0 := Tryd.sizeOf0
  v0 := Tryd.zeroValue0
  t3 := Tryd.underlying3
  a3 := Tryd.isAgg3
  z3 := Tryd.sizeOf3
  v3 := Tryd.zeroValue3
  t9 := Tryd.underlying9
  a9 := Tryd.isAgg9
  z9 := Tryd.sizeOf9
  v9 := Tryd.zeroValue9
  t37 := Tryd.underlying40
  a37 := Tryd.isAgg40
  z37 := Tryd.sizeOf40
  v37 := Tryd.zeroValue40
  t70 := Tryd.underlying41
  a70 := Tryd.isAgg41
  z70 := Tryd.sizeOf41
  v70 := Tryd.zeroValue41
  t72 := Tryd.underlying43
  a72 := Tryd.isAgg43
  z72 := Tryd.sizeOf43
  v72 := Tryd.zeroValue43
  t127 := Tryd.underlying48
  a127 := Tryd.isAgg48
  z127 := Tryd.sizeOf48
  v127 := Tryd.zeroValue48 }
theorem Tryd.Builder_Extra_169 : Builder.Extra Tryd.prog Tryd.lays169_ren := {
  sizeBuilder := by kernel_rfl
  liesBuilder := by kernel_rfl
  t5 := Tryd.underlying5
  a5 := Tryd.isAgg5
  z5 := Tryd.sizeOf5
  v5 := Tryd.zeroValue5
  infoByte := by kernel_rfl
  cellsByte := by kernel_rfl
  sizeByte := by kernel_rfl
  neB5 := by decide }
open Go.RowKit in
/-- (*strings.Builder).String: String returns the accumulated string: WHATEVER THE BUILDER HOLDS; THE FORM '_k': OVER 'Lib.IsBuilderF' (a builder that 'String()' may have read), AND WITH THE FRAME THAT REACHES ABOVE THE BUILDER: 'Lib.OthersKept': every block that is not b and is no row of uint8's stands as it stood: the iterator of a range among them. (LAID: no walk: one application.) -/
theorem Tryd.Builder_String_any_k (B b : Nat) (l : List UInt8) (w : World) (h : Lib.IsBuilderF 43 5 B b (Lib.byteCells l) w) (hBw : B ≤ w.heap.size) :
    Calls Tryd.prog 17 #[.pointer (some ⟨b, 0, none⟩)] w fun e w' => e = .returned (.string ⟨l.toArray⟩) ∧ (Lib.IsBuilderF 43 5 B b (Lib.byteCells l) w' ∧ Below B w w' ∧ Lib.OthersKept 5 (some b) w w') := Any.Builder_String_any_k Tryd.lays169 Tryd.Builder_Extra_169 B b l w h hBw
def Tryd.laysM171_ren : Go.Shelf.Ren := ⟨fun | 171 => 15 | 243 => 18 | 246 => 20 | 283 => 22 | 284 => 23 | 285 => 24 | 286 => 25 | 129 => 27 | 317 => 26 | 318 => 28 | 319 => 29 | 320 => 30 | 337 => 31 | 338 => 32 | n => n, fun | 3 => 3 | 9 => 9 | 2 => 2 | 4 => 4 | 171 => 39 | 0 => 0 | 53 => 38 | 37 => 40 | 5 => 5 | 173 => 54 | 212 => 58 | 51 => 59 | 20 => 20 | 213 => 60 | 46 => 62 | 232 => 65 | 233 => 66 | n => n, fun | 17 => 0 | 18 => 1 | 19 => 2 | n => n⟩
theorem Tryd.laysM171 : Go.Proofs.LaysM.n171 Tryd.prog Tryd.laysM171_ren := {
  mixed := by kernel_rfl
  f129 := Tryd.func27.trans (congrArg some (by kernel_rfl))
  f171 := Tryd.func15.trans (congrArg some (by kernel_rfl))
  f243 := Tryd.func18.trans (congrArg some (by kernel_rfl))
  f246 := Tryd.func20.trans (congrArg some (by kernel_rfl))
  f283 := Tryd.func22.trans (congrArg some (by kernel_rfl))
  f284 := Tryd.func23.trans (congrArg some (by kernel_rfl))
  f285 := Tryd.func24.trans (congrArg some (by kernel_rfl))
  f286 := Tryd.func25.trans (congrArg some (by kernel_rfl))
  f317 := Tryd.func26.trans (congrArg some (by kernel_rfl))
  f318 := Tryd.func28.trans (congrArg some (by kernel_rfl))
  f319 := Tryd.func29.trans (congrArg some (by kernel_rfl))
  f320 := Tryd.func30.trans (congrArg some (by kernel_rfl))
  f337 := Tryd.func31.trans (congrArg some (by kernel_rfl))
  f338 := Tryd.func32.trans (congrArg some (by kernel_rfl))
  t0 := Tryd.underlying0
  a0 := Tryd.isAgg0
  z0 := Tryd.sizeOf0
  v0 := Tryd.zeroValue0
  t2 := Tryd.underlying2
  a2 := Tryd.isAgg2
  z2 := Tryd.sizeOf2
  v2 := Tryd.zeroValue2
  t3 := Tryd.underlying3
  a3 := Tryd.isAgg3
  z3 := Tryd.sizeOf3
  v3 := Tryd.zeroValue3
  t4 := Tryd.underlying4
  a4 := Tryd.isAgg4
  z4 := Tryd.sizeOf4
  v4 := Tryd.zeroValue4
  t5 := Tryd.underlying5
  a5 := Tryd.isAgg5
  z5 := Tryd.sizeOf5
  v5 := Tryd.zeroValue5
  t9 := Tryd.underlying9
  a9 := Tryd.isAgg9
  z9 := Tryd.sizeOf9
  v9 := Tryd.zeroValue9
  t20 := Tryd.underlying20
  a20 := Tryd.isAgg20
  z20 := Tryd.sizeOf20
  v20 := Tryd.zeroValue20
  t37 := Tryd.underlying40
  a37 := Tryd.isAgg40
  z37 := Tryd.sizeOf40
  v37 := Tryd.zeroValue40
  t46 := Tryd.underlying62
  a46 := Tryd.isAgg62
  z46 := Tryd.sizeOf62
  v46 := Tryd.zeroValue62
  t51 := Tryd.underlying59
  a51 := Tryd.isAgg59
  z51 := Tryd.sizeOf59
  v51 := Tryd.zeroValue59
  t53 := Tryd.underlying38
  a53 := Tryd.isAgg38
  z53 := Tryd.sizeOf38
  v53 := Tryd.zeroValue38
  t171 := Tryd.underlying39
  a171 := Tryd.isAgg39
  z171 := Tryd.sizeOf39
  v171 := Tryd.zeroValue39
  t173 := Tryd.underlying54
  a173 := Tryd.isAgg54
  z173 := Tryd.sizeOf54
  v173 := Tryd.zeroValue54
  t212 := Tryd.underlying58
  a212 := Tryd.isAgg58
  z212 := Tryd.sizeOf58
  v212 := Tryd.zeroValue58
  t213 := Tryd.underlying60
  a213 := Tryd.isAgg60
  z213 := Tryd.sizeOf60
  t232 := Tryd.underlying65
  a232 := Tryd.isAgg65
  z232 := Tryd.sizeOf65
  v232 := Tryd.zeroValue65
  t233 := Tryd.underlying66
  a233 := Tryd.isAgg66
  z233 := Tryd.sizeOf66
  v233 := Tryd.zeroValue66
  g17 := by kernel_rfl
  g18 := by kernel_rfl
  g19 := by kernel_rfl
  i0 := by kernel_rfl
  i2 := by kernel_rfl
  i3 := by kernel_rfl
  i4 := by kernel_rfl
  i5 := by kernel_rfl
  i9 := by kernel_rfl
  i20 := by kernel_rfl
  i37 := by kernel_rfl
  i46 := by kernel_rfl
  i51 := by kernel_rfl
  i53 := by kernel_rfl
  i171 := by kernel_rfl
  i173 := by kernel_rfl
  i212 := by kernel_rfl
  i232 := by kernel_rfl
  i233 := by kernel_rfl
  m17 := by kernel_rfl
  m18 := by kernel_rfl
  m19 := by kernel_rfl }
open Go.RowKit Go.Sort Go.Lib in
/-- strconv.Itoa: equivalent to FormatInt at base 10: i's DECIMAL NUMERAL ('Lib.itoa': a '-' where i is negative, then the digits), FOR EVERY int. The world behind the call: the world before it, new blocks behind the heap (the library's 'var a [24]byte'), draws. (LAID: no walk: one application.) -/
theorem Tryd.strconv_Itoa (n : Int) (h0 : -9223372036854775808 ≤ n) (h1 : n ≤ 9223372036854775807) (w : World) (htab : Lib.TabIs Tryd.prog w tabName .u64 Lib.pow10Tab) :
    Calls Tryd.prog 15 #[.int .i64 n] w fun e w' => e = .returned (.string ⟨(Lib.itoa n).toArray⟩) ∧ ∃ k os, w' = grow (w.drewN k) os := Any.strconv_Itoa Tryd.laysM171 n h0 h1 w htab
end Go.Proofs.Qxb6628890aDoor
