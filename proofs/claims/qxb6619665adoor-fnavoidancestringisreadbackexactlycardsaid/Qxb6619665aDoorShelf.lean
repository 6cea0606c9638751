/-
  DERIVED: THE SHELF's CONTRACTS AT THIS DUMP, IN PLAIN WORDS (tools/lay-plain.mjs out of 'Qxb6619665aDoorShelfRaw.lean', which tools/lay-shelf.mjs wrote): THE SAME DECLARATIONS UNDER THE SAME NAMES: 'import', 'namespace', 'open', 'def', 'theorem' AND NOTHING ELSE: no command of the shelf's: FOR A HAND-IN. Each laying: the table of numbers ('.._ren') and one theorem, a field a fact of the dump's own or the kernel's comparison; each contract: ONE APPLICATION.
-/
import Derived.Shelf.LaysM
import Derived.Shelf.Strconv.Itoa3
import Derived.Test.Qxb6619665aDoorProg
namespace Go.Proofs
open Go.Shelf
def Tryd.laysM171_ren : Go.Shelf.Ren := ⟨fun | 171 => 7 | 243 => 8 | 246 => 9 | 283 => 10 | 284 => 11 | 285 => 12 | 286 => 13 | 129 => 15 | 317 => 14 | 318 => 16 | 319 => 17 | 320 => 18 | 337 => 19 | 338 => 20 | n => n, fun | 3 => 3 | 9 => 9 | 2 => 2 | 4 => 4 | 171 => 30 | 0 => 0 | 53 => 31 | 37 => 34 | 5 => 5 | 173 => 35 | 212 => 39 | 51 => 40 | 20 => 20 | 213 => 41 | 46 => 43 | 232 => 46 | 233 => 47 | n => n, fun | 17 => 0 | 18 => 1 | 19 => 2 | n => n⟩
theorem Tryd.laysM171 : Go.Proofs.LaysM.n171 Tryd.prog Tryd.laysM171_ren := {
  mixed := by kernel_rfl
  f129 := Tryd.func15.trans (congrArg some (by kernel_rfl))
  f171 := Tryd.func7.trans (congrArg some (by kernel_rfl))
  f243 := Tryd.func8.trans (congrArg some (by kernel_rfl))
  f246 := Tryd.func9.trans (congrArg some (by kernel_rfl))
  f283 := Tryd.func10.trans (congrArg some (by kernel_rfl))
  f284 := Tryd.func11.trans (congrArg some (by kernel_rfl))
  f285 := Tryd.func12.trans (congrArg some (by kernel_rfl))
  f286 := Tryd.func13.trans (congrArg some (by kernel_rfl))
  f317 := Tryd.func14.trans (congrArg some (by kernel_rfl))
  f318 := Tryd.func16.trans (congrArg some (by kernel_rfl))
  f319 := Tryd.func17.trans (congrArg some (by kernel_rfl))
  f320 := Tryd.func18.trans (congrArg some (by kernel_rfl))
  f337 := Tryd.func19.trans (congrArg some (by kernel_rfl))
  f338 := Tryd.func20.trans (congrArg some (by kernel_rfl))
  t0 := Tryd.underlying0
  a0 := Tryd.isAgg0
  z0 := Tryd.sizeOf0
  v0 := Tryd.zeroValue0
  t2 := Tryd.underlying2
  a2 := Tryd.isAgg2
  z2 := Tryd.sizeOf2
  v2 := Tryd.zeroValue2
  t3 := Tryd.underlying3
  a3 := Tryd.isAgg3
  z3 := Tryd.sizeOf3
  v3 := Tryd.zeroValue3
  t4 := Tryd.underlying4
  a4 := Tryd.isAgg4
  z4 := Tryd.sizeOf4
  v4 := Tryd.zeroValue4
  t5 := Tryd.underlying5
  a5 := Tryd.isAgg5
  z5 := Tryd.sizeOf5
  v5 := Tryd.zeroValue5
  t9 := Tryd.underlying9
  a9 := Tryd.isAgg9
  z9 := Tryd.sizeOf9
  v9 := Tryd.zeroValue9
  t20 := Tryd.underlying20
  a20 := Tryd.isAgg20
  z20 := Tryd.sizeOf20
  v20 := Tryd.zeroValue20
  t37 := Tryd.underlying34
  a37 := Tryd.isAgg34
  z37 := Tryd.sizeOf34
  v37 := Tryd.zeroValue34
  t46 := Tryd.underlying43
  a46 := Tryd.isAgg43
  z46 := Tryd.sizeOf43
  v46 := Tryd.zeroValue43
  t51 := Tryd.underlying40
  a51 := Tryd.isAgg40
  z51 := Tryd.sizeOf40
  v51 := Tryd.zeroValue40
  t53 := Tryd.underlying31
  a53 := Tryd.isAgg31
  z53 := Tryd.sizeOf31
  v53 := Tryd.zeroValue31
  t171 := Tryd.underlying30
  a171 := Tryd.isAgg30
  z171 := Tryd.sizeOf30
  v171 := Tryd.zeroValue30
  t173 := Tryd.underlying35
  a173 := Tryd.isAgg35
  z173 := Tryd.sizeOf35
  v173 := Tryd.zeroValue35
  t212 := Tryd.underlying39
  a212 := Tryd.isAgg39
  z212 := Tryd.sizeOf39
  v212 := Tryd.zeroValue39
  t213 := Tryd.underlying41
  a213 := Tryd.isAgg41
  z213 := Tryd.sizeOf41
  t232 := Tryd.underlying46
  a232 := Tryd.isAgg46
  z232 := Tryd.sizeOf46
  v232 := Tryd.zeroValue46
  t233 := Tryd.underlying47
  a233 := Tryd.isAgg47
  z233 := Tryd.sizeOf47
  v233 := Tryd.zeroValue47
  g17 := by kernel_rfl
  g18 := by kernel_rfl
  g19 := by kernel_rfl
  i0 := by kernel_rfl
  i2 := by kernel_rfl
  i3 := by kernel_rfl
  i4 := by kernel_rfl
  i5 := by kernel_rfl
  i9 := by kernel_rfl
  i20 := by kernel_rfl
  i37 := by kernel_rfl
  i46 := by kernel_rfl
  i51 := by kernel_rfl
  i53 := by kernel_rfl
  i171 := by kernel_rfl
  i173 := by kernel_rfl
  i212 := by kernel_rfl
  i232 := by kernel_rfl
  i233 := by kernel_rfl
  m17 := by kernel_rfl
  m18 := by kernel_rfl
  m19 := by kernel_rfl }
open Go.RowKit Go.Sort Go.Lib in
/-- strconv.Itoa: i's DECIMAL NUMERAL, FOR EVERY int. (LAID: no walk: one application.) -/
theorem Tryd.strconv_Itoa (n : Int) (h0 : -9223372036854775808 ≤ n) (h1 : n ≤ 9223372036854775807) (w : World) (htab : Lib.TabIs Tryd.prog w "internal/strconv.uint64pow10" .u64 Lib.pow10Tab) :
    Calls Tryd.prog 7 #[.int .i64 n] w fun e w' => e = .returned (.string ⟨(Lib.itoa n).toArray⟩) ∧ ∃ k os, w' = grow (w.drewN k) os := Any.strconv_Itoa Tryd.laysM171 n h0 h1 w htab
end Go.Proofs
