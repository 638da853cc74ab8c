/-
  DERIVED: THE SHELF's CONTRACTS AT THIS DUMP, IN PLAIN WORDS (tools/lay-plain.mjs out of 'TrydShelf.lean', which tools/lay-shelf.mjs wrote): THE SAME DECLARATIONS UNDER THE SAME NAMES: 'import', 'namespace', 'open', 'def', 'theorem' AND NOTHING ELSE: no command of the shelf's: FOR A HAND-IN. Each laying: the table of numbers ('.._ren') and one theorem, a field a fact of the dump's own or the kernel's comparison; each contract: ONE APPLICATION.
-/
import Derived.Shelf.Strconv.Itoa0
import Derived.Shelf.Strconv.Itoa1
import Derived.Shelf.LaysM
import Derived.Shelf.Strconv.Itoa2
import Derived.Shelf.Strconv.Itoa3
import Derived.Test.Qxb6608830aDoorRows
namespace Go.Proofs
open Go.Shelf
/-- The name of the library's table of powers of ten, as the row lists it. -/
def Tryd.powName : String := Qxb6608830aDoor.Rows.fnDemotedLinesCutRow.named.headD default
def Tryd.laysM171_ren : Go.Shelf.Ren := ⟨fun | 171 => 19 | 243 => 20 | 246 => 21 | 283 => 22 | 284 => 23 | 285 => 24 | 286 => 25 | 129 => 27 | 317 => 26 | 318 => 28 | 319 => 29 | 320 => 30 | 337 => 31 | 338 => 32 | n => n, fun | 3 => 3 | 9 => 9 | 2 => 2 | 4 => 4 | 171 => 55 | 0 => 0 | 53 => 32 | 37 => 58 | 5 => 5 | 173 => 59 | 212 => 63 | 51 => 64 | 20 => 20 | 213 => 65 | 46 => 67 | 232 => 70 | 233 => 71 | n => n, fun | 17 => 0 | 18 => 1 | 19 => 2 | n => n⟩
theorem Tryd.laysM171 : Go.Proofs.LaysM.n171 Tryd.prog Tryd.laysM171_ren := {
  mixed := by kernel_rfl
  f129 := Tryd.func27.trans (congrArg some (by kernel_rfl))
  f171 := Tryd.func19.trans (congrArg some (by kernel_rfl))
  f243 := Tryd.func20.trans (congrArg some (by kernel_rfl))
  f246 := Tryd.func21.trans (congrArg some (by kernel_rfl))
  f283 := Tryd.func22.trans (congrArg some (by kernel_rfl))
  f284 := Tryd.func23.trans (congrArg some (by kernel_rfl))
  f285 := Tryd.func24.trans (congrArg some (by kernel_rfl))
  f286 := Tryd.func25.trans (congrArg some (by kernel_rfl))
  f317 := Tryd.func26.trans (congrArg some (by kernel_rfl))
  f318 := Tryd.func28.trans (congrArg some (by kernel_rfl))
  f319 := Tryd.func29.trans (congrArg some (by kernel_rfl))
  f320 := Tryd.func30.trans (congrArg some (by kernel_rfl))
  f337 := Tryd.func31.trans (congrArg some (by kernel_rfl))
  f338 := Tryd.func32.trans (congrArg some (by kernel_rfl))
  t0 := Tryd.underlying0
  a0 := Tryd.isAgg0
  z0 := Tryd.sizeOf0
  v0 := Tryd.zeroValue0
  t2 := Tryd.underlying2
  a2 := Tryd.isAgg2
  z2 := Tryd.sizeOf2
  v2 := Tryd.zeroValue2
  t3 := Tryd.underlying3
  a3 := Tryd.isAgg3
  z3 := Tryd.sizeOf3
  v3 := Tryd.zeroValue3
  t4 := Tryd.underlying4
  a4 := Tryd.isAgg4
  z4 := Tryd.sizeOf4
  v4 := Tryd.zeroValue4
  t5 := Tryd.underlying5
  a5 := Tryd.isAgg5
  z5 := Tryd.sizeOf5
  v5 := Tryd.zeroValue5
  t9 := Tryd.underlying9
  a9 := Tryd.isAgg9
  z9 := Tryd.sizeOf9
  v9 := Tryd.zeroValue9
  t20 := Tryd.underlying20
  a20 := Tryd.isAgg20
  z20 := Tryd.sizeOf20
  v20 := Tryd.zeroValue20
  t37 := Tryd.underlying58
  a37 := Tryd.isAgg58
  z37 := Tryd.sizeOf58
  v37 := Tryd.zeroValue58
  t46 := Tryd.underlying67
  a46 := Tryd.isAgg67
  z46 := Tryd.sizeOf67
  v46 := Tryd.zeroValue67
  t51 := Tryd.underlying64
  a51 := Tryd.isAgg64
  z51 := Tryd.sizeOf64
  v51 := Tryd.zeroValue64
  t53 := Tryd.underlying32
  a53 := Tryd.isAgg32
  z53 := Tryd.sizeOf32
  v53 := Tryd.zeroValue32
  t171 := Tryd.underlying55
  a171 := Tryd.isAgg55
  z171 := Tryd.sizeOf55
  v171 := Tryd.zeroValue55
  t173 := Tryd.underlying59
  a173 := Tryd.isAgg59
  z173 := Tryd.sizeOf59
  v173 := Tryd.zeroValue59
  t212 := Tryd.underlying63
  a212 := Tryd.isAgg63
  z212 := Tryd.sizeOf63
  v212 := Tryd.zeroValue63
  t213 := Tryd.underlying65
  a213 := Tryd.isAgg65
  z213 := Tryd.sizeOf65
  t232 := Tryd.underlying70
  a232 := Tryd.isAgg70
  z232 := Tryd.sizeOf70
  v232 := Tryd.zeroValue70
  t233 := Tryd.underlying71
  a233 := Tryd.isAgg71
  z233 := Tryd.sizeOf71
  v233 := Tryd.zeroValue71
  g17 := by kernel_rfl
  g18 := by kernel_rfl
  g19 := by kernel_rfl
  i0 := by kernel_rfl
  i2 := by kernel_rfl
  i3 := by kernel_rfl
  i4 := by kernel_rfl
  i5 := by kernel_rfl
  i9 := by kernel_rfl
  i20 := by kernel_rfl
  i37 := by kernel_rfl
  i46 := by kernel_rfl
  i51 := by kernel_rfl
  i53 := by kernel_rfl
  i171 := by kernel_rfl
  i173 := by kernel_rfl
  i212 := by kernel_rfl
  i232 := by kernel_rfl
  i233 := by kernel_rfl
  m17 := by kernel_rfl
  m18 := by kernel_rfl
  m19 := by kernel_rfl }
open Go.RowKit Go.Sort Go.Lib in
/-- strconv.Itoa: the decimal numeral of i, for every int; behind the call: new blocks behind the heap, draws. (Laid: one application.) -/
theorem Tryd.strconv_Itoa (n : Int) (h0 : -9223372036854775808 ≤ n) (h1 : n ≤ 9223372036854775807) (w : World) (htab : Lib.TabIs Tryd.prog w Tryd.powName .u64 Lib.pow10Tab) :
    Calls Tryd.prog 19 #[.int .i64 n] w fun e w' => e = .returned (.string ⟨(Lib.itoa n).toArray⟩) ∧ ∃ k os, w' = grow (w.drewN k) os := Any.strconv_Itoa Tryd.laysM171 n h0 h1 w htab
end Go.Proofs
