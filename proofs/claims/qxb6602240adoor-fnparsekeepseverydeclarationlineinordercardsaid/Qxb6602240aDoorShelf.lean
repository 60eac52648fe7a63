/-
  Seat b6602240aD: the shelf's contracts for strings.HasPrefix and strings.Split at this dump, written by the shelf's own tool.
-/
import Derived.Shelf.Strings.Prefix
import Derived.Shelf.LaysM
import Derived.Shelf.Strings.SplitShaped
import Derived.Test.Qxb6602240aDoorProg
namespace Go.Proofs
open Go.Shelf
def Tryd.lays99_ren : Go.Shelf.Ren := ⟨fun | 99 => 15 | 206 => 17 | n => n, fun | 9 => 9 | 4 => 4 | 3 => 3 | n => n, fun | n => n⟩
theorem Tryd.lays99 : Go.Proofs.Lays.n99 Tryd.prog Tryd.lays99_ren := {
  mixed := by kernel_rfl
  f99 := Tryd.func15.trans (congrArg some (by kernel_rfl))
  f206 := Tryd.func17.trans (congrArg some (by kernel_rfl))
  t3 := Tryd.underlying3
  a3 := Tryd.isAgg3
  z3 := Tryd.sizeOf3
  v3 := Tryd.zeroValue3
  t4 := Tryd.underlying4
  a4 := Tryd.isAgg4
  z4 := Tryd.sizeOf4
  v4 := Tryd.zeroValue4
  t9 := Tryd.underlying9
  a9 := Tryd.isAgg9
  z9 := Tryd.sizeOf9
  v9 := Tryd.zeroValue9 }
open Go.RowKit Go.Lib in
theorem Tryd.strings_HasPrefix (s p : ByteArray) (w : World) :
    Calls Tryd.prog 15 #[.string s, .string p] w fun e w' => e = .returned (.bool (Lib.hasPrefix s.data.toList p.data.toList)) ∧ w' = w := Any.strings_HasPrefix Tryd.lays99 s p w
def Tryd.laysM146_ren : Go.Shelf.Ren := ⟨fun | 146 => 14 | 221 => 16 | 268 => 18 | 138 => 19 | 143 => 20 | 195 => 21 | 197 => 22 | 218 => 23 | 219 => 24 | 260 => 25 | 217 => 26 | 225 => 27 | 224 => 28 | 267 => 29 | 266 => 30 | 314 => 31 | n => n, fun | 9 => 9 | 31 => 24 | 3 => 3 | 4 => 4 | 0 => 0 | 105 => 34 | 21 => 21 | 5 => 5 | 46 => 38 | 119 => 39 | 139 => 42 | 138 => 41 | 146 => 44 | 51 => 43 | n => n, fun | 1 => 0 | 3 => 1 | 4 => 2 | n => n⟩
theorem Tryd.laysM146 : Go.Proofs.LaysM.n146 Tryd.prog Tryd.laysM146_ren := {
  mixed := by kernel_rfl
  f138 := Tryd.func19.trans (congrArg some (by kernel_rfl))
  f143 := Tryd.func20.trans (congrArg some (by kernel_rfl))
  f146 := Tryd.func14.trans (congrArg some (by kernel_rfl))
  f195 := Tryd.func21.trans (congrArg some (by kernel_rfl))
  f197 := Tryd.func22.trans (congrArg some (by kernel_rfl))
  f217 := Tryd.func26.trans (congrArg some (by kernel_rfl))
  f218 := Tryd.func23.trans (congrArg some (by kernel_rfl))
  f219 := Tryd.func24.trans (congrArg some (by kernel_rfl))
  f221 := Tryd.func16.trans (congrArg some (by kernel_rfl))
  f224 := Tryd.func28.trans (congrArg some (by kernel_rfl))
  f225 := Tryd.func27.trans (congrArg some (by kernel_rfl))
  f260 := Tryd.func25.trans (congrArg some (by kernel_rfl))
  f266 := Tryd.func30.trans (congrArg some (by kernel_rfl))
  f267 := Tryd.func29.trans (congrArg some (by kernel_rfl))
  f268 := Tryd.func18.trans (congrArg some (by kernel_rfl))
  f314 := Tryd.func31.trans (congrArg some (by kernel_rfl))
  t0 := Tryd.underlying0
  a0 := Tryd.isAgg0
  z0 := Tryd.sizeOf0
  v0 := Tryd.zeroValue0
  t3 := Tryd.underlying3
  a3 := Tryd.isAgg3
  z3 := Tryd.sizeOf3
  v3 := Tryd.zeroValue3
  t4 := Tryd.underlying4
  a4 := Tryd.isAgg4
  z4 := Tryd.sizeOf4
  v4 := Tryd.zeroValue4
  t5 := Tryd.underlying5
  a5 := Tryd.isAgg5
  z5 := Tryd.sizeOf5
  v5 := Tryd.zeroValue5
  t9 := Tryd.underlying9
  a9 := Tryd.isAgg9
  z9 := Tryd.sizeOf9
  v9 := Tryd.zeroValue9
  t21 := Tryd.underlying21
  a21 := Tryd.isAgg21
  z21 := Tryd.sizeOf21
  v21 := Tryd.zeroValue21
  t31 := Tryd.underlying24
  a31 := Tryd.isAgg24
  z31 := Tryd.sizeOf24
  v31 := Tryd.zeroValue24
  t46 := Tryd.underlying38
  a46 := Tryd.isAgg38
  z46 := Tryd.sizeOf38
  v46 := Tryd.zeroValue38
  t51 := Tryd.underlying43
  a51 := Tryd.isAgg43
  z51 := Tryd.sizeOf43
  v51 := Tryd.zeroValue43
  t105 := Tryd.underlying34
  a105 := Tryd.isAgg34
  z105 := Tryd.sizeOf34
  v105 := Tryd.zeroValue34
  t119 := Tryd.underlying39
  a119 := Tryd.isAgg39
  z119 := Tryd.sizeOf39
  t138 := Tryd.underlying41
  a138 := Tryd.isAgg41
  z138 := Tryd.sizeOf41
  v138 := Tryd.zeroValue41
  t139 := Tryd.underlying42
  a139 := Tryd.isAgg42
  z139 := Tryd.sizeOf42
  v139 := Tryd.zeroValue42
  t146 := Tryd.underlying44
  a146 := Tryd.isAgg44
  z146 := Tryd.sizeOf44
  v146 := Tryd.zeroValue44
  g1 := by kernel_rfl
  g3 := by kernel_rfl
  g4 := by kernel_rfl
  i0 := by kernel_rfl
  i3 := by kernel_rfl
  i4 := by kernel_rfl
  i5 := by kernel_rfl
  i9 := by kernel_rfl
  i21 := by kernel_rfl
  i31 := by kernel_rfl
  i46 := by kernel_rfl
  i51 := by kernel_rfl
  i105 := by kernel_rfl
  i138 := by kernel_rfl
  i139 := by kernel_rfl
  i146 := by kernel_rfl
  m1 := by kernel_rfl
  s1_3 := fun w h => Go.Proofs.cell_of_shapedOpen_int (zero := #[.int .i64 0]) (t := 3) h (of_decide_eq_true (by kernel_rfl)) (by kernel_rfl) rfl (by kernel_rfl) (by kernel_rfl) Tryd.underlying3
  m3 := by kernel_rfl
  m4 := by kernel_rfl }
open Go.RowKit Go.Lib in
theorem Tryd.strings_Split_shaped (s sep : ByteArray) (w : World) (h : w.ShapedOpen Tryd.prog) (hs : s.size < 4294967281) (h1 : 1 ≤ sep.size) :
    Calls Tryd.prog 14 #[.string s, .string sep] w fun e w' =>
      e = .returned (.slice (some ⟨w.heap.size, 0, none⟩) (Lib.countB s sep + 1) (Lib.countB s sep + 1)) ∧ w' = w.alloc (.cells ((Lib.splitB sep 0 (Lib.countB s sep) s).map Value.string).toArray 9) := Any.strings_Split_shaped Tryd.laysM146 s sep w h hs h1
end Go.Proofs
