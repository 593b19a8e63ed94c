/-
  The two library contracts that the walks of this seat use, laid at this seat's dump by the shelf's tools, in plain words: strings.ContainsFunc at whatever predicate pays 'PredAtRunes'; unicode.IsSpace at every int32 under 'Lib.WhiteTab'.
-/
import Derived.Shelf.GgClosure.StringsIndexFuncTop
import Derived.Shelf.GgClosure.StringsRunes
import Derived.Shelf.Unicode.IsSpaceAny
import Derived.Shelf.Unicode.IsSpaceAnyD
import Derived.Test.Qxb6618505aDoorProg
namespace Go.Proofs
open Go.Shelf
def Tryd.laysGw17_ren : Go.Shelf.Ren := ⟨fun | 17 => 10 | 15 => 12 | 20 => 14 | n => n, fun | 9 => 9 | 23 => 25 | 4 => 4 | 3 => 3 | 0 => 0 | 21 => 21 | n => n, fun | n => n⟩
theorem Tryd.laysGw17 : Go.Proofs.LaysGw.n17 Tryd.prog Tryd.laysGw17_ren := {
  mixed := by kernel_rfl
  f15 := Tryd.func12.trans (congrArg some (by kernel_rfl))
  f17 := Tryd.func10.trans (congrArg some (by kernel_rfl))
  f20 := Tryd.func14.trans (congrArg some (by kernel_rfl))
  t0 := Tryd.underlying0
  a0 := Tryd.isAgg0
  z0 := Tryd.sizeOf0
  v0 := Tryd.zeroValue0
  i0 := by kernel_rfl
  t3 := Tryd.underlying3
  a3 := Tryd.isAgg3
  z3 := Tryd.sizeOf3
  v3 := Tryd.zeroValue3
  i3 := by kernel_rfl
  t4 := Tryd.underlying4
  a4 := Tryd.isAgg4
  z4 := Tryd.sizeOf4
  v4 := Tryd.zeroValue4
  i4 := by kernel_rfl
  t9 := Tryd.underlying9
  a9 := Tryd.isAgg9
  z9 := Tryd.sizeOf9
  v9 := Tryd.zeroValue9
  i9 := by kernel_rfl
  t21 := Tryd.underlying21
  a21 := Tryd.isAgg21
  z21 := Tryd.sizeOf21
  v21 := Tryd.zeroValue21
  i21 := by kernel_rfl
  t23 := Tryd.underlying25
  a23 := Tryd.isAgg25
  z23 := Tryd.sizeOf25
  v23 := Tryd.zeroValue25
  i23 := by kernel_rfl }
open Go.RowKit Go.Lib in
theorem Tryd.strings_ContainsFunc_runes (g : Nat) (lb : Array Value) (eg : ∀ args w, (callFunc g args).run Tryd.prog w = .ok (.enter g args) w) (p : Nat → Bool) (s : ByteArray) (w : World) (hp : PredAtRunes Tryd.prog g lb p w) :
    Calls Tryd.prog 10 #[.string s, .func (.func g) #[] lb] w fun e w' => e = .returned (.bool (decide (0 ≤ Lib.idxFunc p true s))) ∧ Below w.heap.size w w' := Any.strings_ContainsFunc_runes Tryd.laysGw17 g lb eg p s w hp
def Tryd.lays199_ren : Go.Shelf.Ren := ⟨fun | 199 => 11 | 261 => 13 | 311 => 15 | 312 => 16 | n => n, fun | 21 => 21 | 4 => 4 | 51 => 27 | 141 => 29 | 0 => 0 | 196 => 34 | 193 => 31 | 3 => 3 | 198 => 37 | 49 => 35 | 194 => 32 | 201 => 40 | 226 => 42 | 46 => 43 | 227 => 44 | n => n, fun | 6 => 0 | n => n⟩
theorem Tryd.lays199 : Go.Proofs.Lays.n199 Tryd.prog Tryd.lays199_ren := {
  mixed := by kernel_rfl
  f199 := Tryd.func11.trans (congrArg some (by kernel_rfl))
  f261 := Tryd.func13.trans (congrArg some (by kernel_rfl))
  f311 := Tryd.func15.trans (congrArg some (by kernel_rfl))
  f312 := Tryd.func16.trans (congrArg some (by kernel_rfl))
  t0 := Tryd.underlying0
  a0 := Tryd.isAgg0
  z0 := Tryd.sizeOf0
  v0 := Tryd.zeroValue0
  t3 := Tryd.underlying3
  a3 := Tryd.isAgg3
  z3 := Tryd.sizeOf3
  v3 := Tryd.zeroValue3
  t4 := Tryd.underlying4
  a4 := Tryd.isAgg4
  z4 := Tryd.sizeOf4
  v4 := Tryd.zeroValue4
  t21 := Tryd.underlying21
  a21 := Tryd.isAgg21
  z21 := Tryd.sizeOf21
  v21 := Tryd.zeroValue21
  t46 := Tryd.underlying43
  a46 := Tryd.isAgg43
  z46 := Tryd.sizeOf43
  v46 := Tryd.zeroValue43
  t49 := Tryd.underlying35
  a49 := Tryd.isAgg35
  z49 := Tryd.sizeOf35
  v49 := Tryd.zeroValue35
  t51 := Tryd.underlying27
  a51 := Tryd.isAgg27
  z51 := Tryd.sizeOf27
  v51 := Tryd.zeroValue27
  t141 := Tryd.underlying29
  a141 := Tryd.isAgg29
  z141 := Tryd.sizeOf29
  v141 := Tryd.zeroValue29
  t193 := Tryd.underlying31
  a193 := Tryd.isAgg31
  z193 := Tryd.sizeOf31
  v193 := Tryd.zeroValue31
  t194 := Tryd.underlying32
  a194 := Tryd.isAgg32
  z194 := Tryd.sizeOf32
  v194 := Tryd.zeroValue32
  t196 := Tryd.underlying34
  a196 := Tryd.isAgg34
  z196 := Tryd.sizeOf34
  v196 := Tryd.zeroValue34
  t198 := Tryd.underlying37
  a198 := Tryd.isAgg37
  z198 := Tryd.sizeOf37
  v198 := Tryd.zeroValue37
  t201 := Tryd.underlying40
  a201 := Tryd.isAgg40
  z201 := Tryd.sizeOf40
  v201 := Tryd.zeroValue40
  t226 := Tryd.underlying42
  a226 := Tryd.isAgg42
  z226 := Tryd.sizeOf42
  v226 := Tryd.zeroValue42
  t227 := Tryd.underlying44
  a227 := Tryd.isAgg44
  z227 := Tryd.sizeOf44
  v227 := Tryd.zeroValue44
  g6 := by kernel_rfl }
open Go.RowKit Go.Lib in
theorem Tryd.unicode_IsSpace_any_d (r : Int) (w : World) (hlo : -2147483648 ≤ r) (hhi : r ≤ 2147483647) (hW : Lib.WhiteTab 0 w) :
    Calls Tryd.prog 11 #[.int .i32 r] w fun e w' => e = .returned (.bool (Lib.isSpaceZ r)) ∧ ∃ q, w' = w.drewN q := Any.unicode_IsSpace_any_d Tryd.lays199 r w hlo hhi hW
end Go.Proofs
