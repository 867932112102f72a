/-
  SEAT b6628262aD: THE LIBRARY's CONTRACTS AT THIS PROGRAM: strconv.Itoa and strings.Join, laid by the shelf's own tools (lay-shelf.mjs, lay-plain.mjs) off this program's text, without a walk; then said in this seat's words.
-/
import Derived.Shelf.Strings.OnBuilder
import Derived.Shelf.LaysM
import Derived.Shelf.Strconv.Itoa3
import Derived.Test.Qxb6628262aDoorFmt
namespace Go.Proofs.Qxb6628262aDoor
open Go.Shelf Go.RowKit
def Tryd.lays156_ren : Go.Shelf.Ren := ⟨fun | 156 => 10 | 165 => 12 | 166 => 13 | 169 => 14 | 240 => 16 | 241 => 17 | 276 => 22 | 277 => 23 | n => n, fun | 31 => 27 | 9 => 9 | 3 => 3 | 4 => 4 | 0 => 0 | 20 => 20 | 72 => 34 | 76 => 38 | 70 => 32 | 37 => 31 | 75 => 37 | 127 => 42 | 164 => 47 | 5 => 5 | 80 => 40 | n => n, fun | n => n⟩
theorem Tryd.lays156 : Go.Proofs.Lays.n156 Tryd.prog Tryd.lays156_ren := {
  mixed := by kernel_rfl
  f156 := Tryd.func10.trans (congrArg some (by kernel_rfl))
  f165 := Tryd.func12.trans (congrArg some (by kernel_rfl))
  f166 := Tryd.func13.trans (congrArg some (by kernel_rfl))
  f169 := Tryd.func14.trans (congrArg some (by kernel_rfl))
  f240 := Tryd.func16.trans (congrArg some (by kernel_rfl))
  f241 := Tryd.func17.trans (congrArg some (by kernel_rfl))
  f276 := Tryd.func22.trans (congrArg some (by kernel_rfl))
  f277 := Tryd.func23.trans (congrArg some (by kernel_rfl))
  t0 := Tryd.underlying0
  a0 := Tryd.isAgg0
  z0 := Tryd.sizeOf0
  v0 := Tryd.zeroValue0
  t3 := Tryd.underlying3
  a3 := Tryd.isAgg3
  z3 := Tryd.sizeOf3
  v3 := Tryd.zeroValue3
  t4 := Tryd.underlying4
  a4 := Tryd.isAgg4
  z4 := Tryd.sizeOf4
  v4 := Tryd.zeroValue4
  t9 := Tryd.underlying9
  a9 := Tryd.isAgg9
  z9 := Tryd.sizeOf9
  v9 := Tryd.zeroValue9
  t20 := Tryd.underlying20
  a20 := Tryd.isAgg20
  z20 := Tryd.sizeOf20
  v20 := Tryd.zeroValue20
  t31 := Tryd.underlying27
  a31 := Tryd.isAgg27
  z31 := Tryd.sizeOf27
  v31 := Tryd.zeroValue27
  t37 := Tryd.underlying31
  a37 := Tryd.isAgg31
  z37 := Tryd.sizeOf31
  v37 := Tryd.zeroValue31
  t70 := Tryd.underlying32
  a70 := Tryd.isAgg32
  z70 := Tryd.sizeOf32
  v70 := Tryd.zeroValue32
  t72 := Tryd.underlying34
  a72 := Tryd.isAgg34
  z72 := Tryd.sizeOf34
  v72 := Tryd.zeroValue34
  t75 := Tryd.underlying37
  a75 := Tryd.isAgg37
  z75 := Tryd.sizeOf37
  v75 := Tryd.zeroValue37
  t76 := Tryd.underlying38
  a76 := Tryd.isAgg38
  z76 := Tryd.sizeOf38
  v76 := Tryd.zeroValue38
  t127 := Tryd.underlying42
  a127 := Tryd.isAgg42
  z127 := Tryd.sizeOf42
  v127 := Tryd.zeroValue42
  t164 := Tryd.underlying47
  a164 := Tryd.isAgg47
  z164 := Tryd.sizeOf47
  v164 := Tryd.zeroValue47 }
theorem Tryd.Builder_Extra_156 : Builder.Extra Tryd.prog Tryd.lays156_ren := {
  sizeBuilder := by kernel_rfl
  liesBuilder := by kernel_rfl
  t5 := Tryd.underlying5
  a5 := Tryd.isAgg5
  z5 := Tryd.sizeOf5
  v5 := Tryd.zeroValue5
  infoByte := by kernel_rfl
  cellsByte := by kernel_rfl
  sizeByte := by kernel_rfl
  neB5 := by decide }
def Tryd.laysM171_ren : Go.Shelf.Ren := ⟨fun | 171 => 9 | 243 => 11 | 246 => 15 | 283 => 18 | 284 => 19 | 285 => 20 | 286 => 21 | 129 => 25 | 317 => 24 | 318 => 26 | 319 => 27 | 320 => 28 | 337 => 29 | 338 => 30 | n => n, fun | 3 => 3 | 9 => 9 | 2 => 2 | 4 => 4 | 171 => 30 | 0 => 0 | 53 => 29 | 37 => 31 | 5 => 5 | 173 => 45 | 212 => 52 | 51 => 53 | 20 => 20 | 213 => 54 | 46 => 56 | 232 => 59 | 233 => 60 | n => n, fun | 17 => 0 | 18 => 2 | 19 => 3 | n => n⟩
theorem Tryd.laysM171 : Go.Proofs.LaysM.n171 Tryd.prog Tryd.laysM171_ren := {
  mixed := by kernel_rfl
  f129 := Tryd.func25.trans (congrArg some (by kernel_rfl))
  f171 := Tryd.func9.trans (congrArg some (by kernel_rfl))
  f243 := Tryd.func11.trans (congrArg some (by kernel_rfl))
  f246 := Tryd.func15.trans (congrArg some (by kernel_rfl))
  f283 := Tryd.func18.trans (congrArg some (by kernel_rfl))
  f284 := Tryd.func19.trans (congrArg some (by kernel_rfl))
  f285 := Tryd.func20.trans (congrArg some (by kernel_rfl))
  f286 := Tryd.func21.trans (congrArg some (by kernel_rfl))
  f317 := Tryd.func24.trans (congrArg some (by kernel_rfl))
  f318 := Tryd.func26.trans (congrArg some (by kernel_rfl))
  f319 := Tryd.func27.trans (congrArg some (by kernel_rfl))
  f320 := Tryd.func28.trans (congrArg some (by kernel_rfl))
  f337 := Tryd.func29.trans (congrArg some (by kernel_rfl))
  f338 := Tryd.func30.trans (congrArg some (by kernel_rfl))
  t0 := Tryd.underlying0
  a0 := Tryd.isAgg0
  z0 := Tryd.sizeOf0
  v0 := Tryd.zeroValue0
  t2 := Tryd.underlying2
  a2 := Tryd.isAgg2
  z2 := Tryd.sizeOf2
  v2 := Tryd.zeroValue2
  t3 := Tryd.underlying3
  a3 := Tryd.isAgg3
  z3 := Tryd.sizeOf3
  v3 := Tryd.zeroValue3
  t4 := Tryd.underlying4
  a4 := Tryd.isAgg4
  z4 := Tryd.sizeOf4
  v4 := Tryd.zeroValue4
  t5 := Tryd.underlying5
  a5 := Tryd.isAgg5
  z5 := Tryd.sizeOf5
  v5 := Tryd.zeroValue5
  t9 := Tryd.underlying9
  a9 := Tryd.isAgg9
  z9 := Tryd.sizeOf9
  v9 := Tryd.zeroValue9
  t20 := Tryd.underlying20
  a20 := Tryd.isAgg20
  z20 := Tryd.sizeOf20
  v20 := Tryd.zeroValue20
  t37 := Tryd.underlying31
  a37 := Tryd.isAgg31
  z37 := Tryd.sizeOf31
  v37 := Tryd.zeroValue31
  t46 := Tryd.underlying56
  a46 := Tryd.isAgg56
  z46 := Tryd.sizeOf56
  v46 := Tryd.zeroValue56
  t51 := Tryd.underlying53
  a51 := Tryd.isAgg53
  z51 := Tryd.sizeOf53
  v51 := Tryd.zeroValue53
  t53 := Tryd.underlying29
  a53 := Tryd.isAgg29
  z53 := Tryd.sizeOf29
  v53 := Tryd.zeroValue29
  t171 := Tryd.underlying30
  a171 := Tryd.isAgg30
  z171 := Tryd.sizeOf30
  v171 := Tryd.zeroValue30
  t173 := Tryd.underlying45
  a173 := Tryd.isAgg45
  z173 := Tryd.sizeOf45
  v173 := Tryd.zeroValue45
  t212 := Tryd.underlying52
  a212 := Tryd.isAgg52
  z212 := Tryd.sizeOf52
  v212 := Tryd.zeroValue52
  t213 := Tryd.underlying54
  a213 := Tryd.isAgg54
  z213 := Tryd.sizeOf54
  t232 := Tryd.underlying59
  a232 := Tryd.isAgg59
  z232 := Tryd.sizeOf59
  v232 := Tryd.zeroValue59
  t233 := Tryd.underlying60
  a233 := Tryd.isAgg60
  z233 := Tryd.sizeOf60
  v233 := Tryd.zeroValue60
  g17 := by kernel_rfl
  g18 := by kernel_rfl
  g19 := by kernel_rfl
  i0 := by kernel_rfl
  i2 := by kernel_rfl
  i3 := by kernel_rfl
  i4 := by kernel_rfl
  i5 := by kernel_rfl
  i9 := by kernel_rfl
  i20 := by kernel_rfl
  i37 := by kernel_rfl
  i46 := by kernel_rfl
  i51 := by kernel_rfl
  i53 := by kernel_rfl
  i171 := by kernel_rfl
  i173 := by kernel_rfl
  i212 := by kernel_rfl
  i232 := by kernel_rfl
  i233 := by kernel_rfl
  m17 := by kernel_rfl
  m18 := by kernel_rfl
  m19 := by kernel_rfl }

theorem below_grow (w : World) (k : Nat) (os : Array Obj) : Below w.heap.size w (Sort.grow (w.drewN k) os) :=
  ⟨rfl, rfl, rfl, by simp [Sort.grow, World.drewN], fun i hi => by
    rw [Sort.heap_grow_old (w.drewN k) os (by exact hi)]
    rfl⟩

theorem itoa_said : ItoaSaid := fun n w h0 h1 htab =>
  (Any.strconv_Itoa Tryd.laysM171 n h0 h1 w htab).mono fun _ _ ⟨he, k, os, hw⟩ => ⟨he, by rw [hw]; exact below_grow w k os⟩

theorem join_said : JoinSaid := fun b c xs w hcells hb hN hcap hlen =>
  Any.strings_Join Tryd.lays156 Tryd.Builder_Extra_156 b 0 c xs ⟨#[44]⟩ w (fun j x hx => by rw [Nat.zero_add]; exact hcells j x hx) hb (by omega) hcap hlen

end Go.Proofs.Qxb6628262aDoor
