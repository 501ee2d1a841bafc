/-
  strconv.Itoa at this program: the shelf's contract (proved once, over any program), laid here in plain words; and the same with the world behind the call told by 'Below'.
-/
import Derived.Shelf.LaysM
import Derived.Shelf.Strconv.Itoa3
import Derived.Test.Qxb6604495aDoorRows
import Derived.Below
namespace Go.Proofs.Qxb6604495aDoor
open Go.Shelf
def laysM171_ren : Go.Shelf.Ren := ⟨fun | 171 => 12 | 243 => 14 | 246 => 15 | 283 => 16 | 284 => 17 | 285 => 18 | 286 => 19 | 129 => 21 | 317 => 20 | 318 => 22 | 319 => 23 | 320 => 24 | 337 => 25 | 338 => 26 | n => n, fun | 3 => 3 | 9 => 9 | 2 => 2 | 4 => 4 | 171 => 33 | 0 => 0 | 53 => 31 | 37 => 36 | 5 => 5 | 173 => 37 | 212 => 41 | 51 => 42 | 20 => 20 | 213 => 43 | 46 => 44 | 232 => 47 | 233 => 48 | n => n, fun | 17 => 0 | 18 => 1 | 19 => 2 | n => n⟩
theorem laysM171 : Go.Proofs.LaysM.n171 Tryd.prog laysM171_ren := {
  mixed := by kernel_rfl
  f129 := Tryd.func21.trans (congrArg some (by kernel_rfl))
  f171 := Tryd.func12.trans (congrArg some (by kernel_rfl))
  f243 := Tryd.func14.trans (congrArg some (by kernel_rfl))
  f246 := Tryd.func15.trans (congrArg some (by kernel_rfl))
  f283 := Tryd.func16.trans (congrArg some (by kernel_rfl))
  f284 := Tryd.func17.trans (congrArg some (by kernel_rfl))
  f285 := Tryd.func18.trans (congrArg some (by kernel_rfl))
  f286 := Tryd.func19.trans (congrArg some (by kernel_rfl))
  f317 := Tryd.func20.trans (congrArg some (by kernel_rfl))
  f318 := Tryd.func22.trans (congrArg some (by kernel_rfl))
  f319 := Tryd.func23.trans (congrArg some (by kernel_rfl))
  f320 := Tryd.func24.trans (congrArg some (by kernel_rfl))
  f337 := Tryd.func25.trans (congrArg some (by kernel_rfl))
  f338 := Tryd.func26.trans (congrArg some (by kernel_rfl))
  t0 := Tryd.underlying0
  a0 := Tryd.isAgg0
  z0 := Tryd.sizeOf0
  v0 := Tryd.zeroValue0
  t2 := Tryd.underlying2
  a2 := Tryd.isAgg2
  z2 := Tryd.sizeOf2
  v2 := Tryd.zeroValue2
  t3 := Tryd.underlying3
  a3 := Tryd.isAgg3
  z3 := Tryd.sizeOf3
  v3 := Tryd.zeroValue3
  t4 := Tryd.underlying4
  a4 := Tryd.isAgg4
  z4 := Tryd.sizeOf4
  v4 := Tryd.zeroValue4
  t5 := Tryd.underlying5
  a5 := Tryd.isAgg5
  z5 := Tryd.sizeOf5
  v5 := Tryd.zeroValue5
  t9 := Tryd.underlying9
  a9 := Tryd.isAgg9
  z9 := Tryd.sizeOf9
  v9 := Tryd.zeroValue9
  t20 := Tryd.underlying20
  a20 := Tryd.isAgg20
  z20 := Tryd.sizeOf20
  v20 := Tryd.zeroValue20
  t37 := Tryd.underlying36
  a37 := Tryd.isAgg36
  z37 := Tryd.sizeOf36
  v37 := Tryd.zeroValue36
  t46 := Tryd.underlying44
  a46 := Tryd.isAgg44
  z46 := Tryd.sizeOf44
  v46 := Tryd.zeroValue44
  t51 := Tryd.underlying42
  a51 := Tryd.isAgg42
  z51 := Tryd.sizeOf42
  v51 := Tryd.zeroValue42
  t53 := Tryd.underlying31
  a53 := Tryd.isAgg31
  z53 := Tryd.sizeOf31
  v53 := Tryd.zeroValue31
  t171 := Tryd.underlying33
  a171 := Tryd.isAgg33
  z171 := Tryd.sizeOf33
  v171 := Tryd.zeroValue33
  t173 := Tryd.underlying37
  a173 := Tryd.isAgg37
  z173 := Tryd.sizeOf37
  v173 := Tryd.zeroValue37
  t212 := Tryd.underlying41
  a212 := Tryd.isAgg41
  z212 := Tryd.sizeOf41
  v212 := Tryd.zeroValue41
  t213 := Tryd.underlying43
  a213 := Tryd.isAgg43
  z213 := Tryd.sizeOf43
  t232 := Tryd.underlying47
  a232 := Tryd.isAgg47
  z232 := Tryd.sizeOf47
  v232 := Tryd.zeroValue47
  t233 := Tryd.underlying48
  a233 := Tryd.isAgg48
  z233 := Tryd.sizeOf48
  v233 := Tryd.zeroValue48
  g17 := by kernel_rfl
  g18 := by kernel_rfl
  g19 := by kernel_rfl
  i0 := by kernel_rfl
  i2 := by kernel_rfl
  i3 := by kernel_rfl
  i4 := by kernel_rfl
  i5 := by kernel_rfl
  i9 := by kernel_rfl
  i20 := by kernel_rfl
  i37 := by kernel_rfl
  i46 := by kernel_rfl
  i51 := by kernel_rfl
  i53 := by kernel_rfl
  i171 := by kernel_rfl
  i173 := by kernel_rfl
  i212 := by kernel_rfl
  i232 := by kernel_rfl
  i233 := by kernel_rfl
  m17 := by kernel_rfl
  m18 := by kernel_rfl
  m19 := by kernel_rfl }
open Go.RowKit Go.Sort Go.Lib

/-- The name of the library's table of powers of ten, as the given row lists it. -/
def powName : String := Rows.fnModeStringDecodesRow.named.headD ""

theorem itoa_any (n : Int) (h0 : -9223372036854775808 ≤ n) (h1 : n ≤ 9223372036854775807) (w : World) (htab : TabIs Tryd.prog w powName .u64 pow10Tab) :
    Calls Tryd.prog 12 #[.int .i64 n] w fun e w' => e = .returned (.string ⟨(itoa n).toArray⟩) ∧ Below w.heap.size w w' := by
  refine (Any.strconv_Itoa laysM171 n h0 h1 w htab).mono ?_
  rintro e w' ⟨rfl, k, os, rfl⟩
  refine ⟨rfl, rfl, rfl, rfl, by simp [grow], fun j hj => ?_⟩
  show ((w.drewN k).heap ++ os)[j]? = w.heap[j]?
  rw [Array.getElem?_append_left (by simpa using hj)]
  rfl
end Go.Proofs.Qxb6604495aDoor
