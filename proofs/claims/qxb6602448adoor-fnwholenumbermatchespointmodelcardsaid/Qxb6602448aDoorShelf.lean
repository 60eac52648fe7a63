/-
  Seat b6602448aD: the shelf's contracts for the bytes, slices and utf8 functions on this road, written by the shelf's own tool.
-/
import Derived.Shelf.SlGeneric
import Derived.Shelf.Spec.DecodeRune
import Derived.Shelf.Spec.SlicesGrow
import Derived.Shelf.Bytes.SlTrim
import Derived.Shelf.Bytes.SlCut
import Derived.Shelf.Bytes.SlSmallAll
import Derived.Test.Qxb6602448aDoorProg
namespace Go.Proofs
open Go.Shelf
def Tryd.lays7_32_ren : Go.Shelf.Ren := ⟨fun | 32 => 34 | 49 => 52 | n => n, fun | 30 => 22 | 21 => 21 | 3 => 3 | 0 => 0 | 5 => 5 | 4 => 4 | 33 => 55 | 66 => 74 | 25 => 44 | 69 => 77 | 68 => 76 | n => n, fun | 2 => 1 | 3 => 2 | n => n⟩
theorem Tryd.lays7_32 : Go.Proofs.Lays7.n32 Tryd.prog Tryd.lays7_32_ren := {
  mixed := by kernel_rfl
  f32 := Tryd.func34.trans (congrArg some (by kernel_rfl))
  f49 := Tryd.func52.trans (congrArg some (by kernel_rfl))
  t0 := Tryd.underlying0
  a0 := Tryd.isAgg0
  z0 := Tryd.sizeOf0
  v0 := Tryd.zeroValue0
  i0 := by kernel_rfl
  t3 := Tryd.underlying3
  a3 := Tryd.isAgg3
  z3 := Tryd.sizeOf3
  v3 := Tryd.zeroValue3
  i3 := by kernel_rfl
  t4 := Tryd.underlying4
  a4 := Tryd.isAgg4
  z4 := Tryd.sizeOf4
  v4 := Tryd.zeroValue4
  i4 := by kernel_rfl
  t5 := Tryd.underlying5
  a5 := Tryd.isAgg5
  z5 := Tryd.sizeOf5
  v5 := Tryd.zeroValue5
  i5 := by kernel_rfl
  t21 := Tryd.underlying21
  a21 := Tryd.isAgg21
  z21 := Tryd.sizeOf21
  v21 := Tryd.zeroValue21
  i21 := by kernel_rfl
  t25 := Tryd.underlying44
  a25 := Tryd.isAgg44
  z25 := Tryd.sizeOf44
  v25 := Tryd.zeroValue44
  i25 := by kernel_rfl
  t30 := Tryd.underlying22
  a30 := Tryd.isAgg22
  z30 := Tryd.sizeOf22
  v30 := Tryd.zeroValue22
  i30 := by kernel_rfl
  t33 := Tryd.underlying55
  a33 := Tryd.isAgg55
  z33 := Tryd.sizeOf55
  v33 := Tryd.zeroValue55
  i33 := by kernel_rfl
  t66 := Tryd.underlying74
  a66 := Tryd.isAgg74
  z66 := Tryd.sizeOf74
  t68 := Tryd.underlying76
  a68 := Tryd.isAgg76
  z68 := Tryd.sizeOf76
  v68 := Tryd.zeroValue76
  i68 := by kernel_rfl
  t69 := Tryd.underlying77
  a69 := Tryd.isAgg77
  z69 := Tryd.sizeOf77
  v69 := Tryd.zeroValue77
  i69 := by kernel_rfl
  g2 := by kernel_rfl
  g3 := by kernel_rfl }
open Go.RowKit Go.Lib in
theorem Tryd.utf8_DecodeRune (s : ByteArray) (b off cap : Nat) (w : World) (hT : Lib.Utf8Tabs 1 2 w)
    (hp : ∀ j, j < s.size → w.cell? ⟨b, off + j, none⟩ = some (.int .u8 (s.get! j).toNat)) :
    Calls Tryd.prog 34 #[.slice (some ⟨b, off, none⟩) s.size cap] w fun e w' => e = .returned (.tuple #[.int .i32 (Lib.decodeGo s).1, .int .i64 (Lib.decodeGo s).2]) ∧ Below w.heap.size w w' := Any7.utf8_DecodeRune Tryd.lays7_32 s b off cap w hT hp
def Tryd.lays11_ren : Go.Shelf.Ren := ⟨fun | 11 => 32 | n => n, fun | 9 => 9 | 27 => 52 | 4 => 4 | 0 => 0 | 3 => 3 | 5 => 5 | n => n, fun | n => n⟩
theorem Tryd.lays11 : Go.Proofs.SlLaysV.n11 Tryd.prog Tryd.lays11_ren := {
  mixed := by kernel_rfl
  f11 := Tryd.func32.trans (congrArg some (by kernel_rfl))
  t0 := Tryd.underlying0
  a0 := Tryd.isAgg0
  z0 := Tryd.sizeOf0
  v0 := Tryd.zeroValue0
  t3 := Tryd.underlying3
  a3 := Tryd.isAgg3
  z3 := Tryd.sizeOf3
  v3 := Tryd.zeroValue3
  t4 := Tryd.underlying4
  a4 := Tryd.isAgg4
  z4 := Tryd.sizeOf4
  v4 := Tryd.zeroValue4
  t5 := Tryd.underlying5
  a5 := Tryd.isAgg5
  z5 := Tryd.sizeOf5
  v5 := Tryd.zeroValue5
  t9 := Tryd.underlying9
  a9 := Tryd.isAgg9
  z9 := Tryd.sizeOf9
  v9 := Tryd.zeroValue9
  t27 := Tryd.underlying52
  a27 := Tryd.isAgg52
  z27 := Tryd.sizeOf52 }
def Tryd.lays16_ren : Go.Shelf.Ren := ⟨fun | 16 => 33 | n => n, fun | 31 => 61 | 5 => 5 | 4 => 4 | 0 => 0 | 27 => 52 | n => n, fun | n => n⟩
theorem Tryd.lays16 : Go.Proofs.SlLaysV.n16 Tryd.prog Tryd.lays16_ren := {
  mixed := by kernel_rfl
  f16 := Tryd.func33.trans (congrArg some (by kernel_rfl))
  t0 := Tryd.underlying0
  a0 := Tryd.isAgg0
  z0 := Tryd.sizeOf0
  v0 := Tryd.zeroValue0
  t4 := Tryd.underlying4
  a4 := Tryd.isAgg4
  z4 := Tryd.sizeOf4
  v4 := Tryd.zeroValue4
  t5 := Tryd.underlying5
  a5 := Tryd.isAgg5
  z5 := Tryd.sizeOf5
  v5 := Tryd.zeroValue5
  t27 := Tryd.underlying52
  a27 := Tryd.isAgg52
  z27 := Tryd.sizeOf52
  t31 := Tryd.underlying61
  a31 := Tryd.isAgg61
  z31 := Tryd.sizeOf61
  v31 := Tryd.zeroValue61 }
def Tryd.lays7_ren : Go.Shelf.Ren := ⟨fun | 7 => 25 | 10 => 41 | 11 => 32 | 13 => 42 | 15 => 43 | 16 => 33 | 19 => 55 | 18 => 54 | 21 => 59 | 17 => 34 | 20 => 52 | n => n, fun | 22 => 22 | 9 => 9 | 3 => 3 | 4 => 4 | 5 => 5 | 28 => 53 | 27 => 52 | 0 => 0 | 31 => 61 | 21 => 21 | 33 => 55 | 36 => 74 | 37 => 44 | 40 => 77 | 39 => 76 | n => n, fun | 0 => 1 | 1 => 2 | n => n⟩
theorem Tryd.lays7 : Go.Proofs.SlLaysV.n7 Tryd.prog Tryd.lays7_ren := {
  mixed := by kernel_rfl
  f7 := Tryd.func25.trans (congrArg some (by kernel_rfl))
  f10 := Tryd.func41.trans (congrArg some (by kernel_rfl))
  f11 := Tryd.func32.trans (congrArg some (by kernel_rfl))
  f13 := Tryd.func42.trans (congrArg some (by kernel_rfl))
  f15 := Tryd.func43.trans (congrArg some (by kernel_rfl))
  f16 := Tryd.func33.trans (congrArg some (by kernel_rfl))
  f17 := Tryd.func34.trans (congrArg some (by kernel_rfl))
  f18 := Tryd.func54.trans (congrArg some (by kernel_rfl))
  f19 := Tryd.func55.trans (congrArg some (by kernel_rfl))
  f20 := Tryd.func52.trans (congrArg some (by kernel_rfl))
  f21 := Tryd.func59.trans (congrArg some (by kernel_rfl))
  t0 := Tryd.underlying0
  a0 := Tryd.isAgg0
  z0 := Tryd.sizeOf0
  v0 := Tryd.zeroValue0
  t3 := Tryd.underlying3
  a3 := Tryd.isAgg3
  z3 := Tryd.sizeOf3
  v3 := Tryd.zeroValue3
  t4 := Tryd.underlying4
  a4 := Tryd.isAgg4
  z4 := Tryd.sizeOf4
  v4 := Tryd.zeroValue4
  t5 := Tryd.underlying5
  a5 := Tryd.isAgg5
  z5 := Tryd.sizeOf5
  v5 := Tryd.zeroValue5
  t9 := Tryd.underlying9
  a9 := Tryd.isAgg9
  z9 := Tryd.sizeOf9
  v9 := Tryd.zeroValue9
  t21 := Tryd.underlying21
  a21 := Tryd.isAgg21
  z21 := Tryd.sizeOf21
  v21 := Tryd.zeroValue21
  t22 := Tryd.underlying22
  a22 := Tryd.isAgg22
  z22 := Tryd.sizeOf22
  v22 := Tryd.zeroValue22
  t27 := Tryd.underlying52
  a27 := Tryd.isAgg52
  z27 := Tryd.sizeOf52
  t28 := Tryd.underlying53
  a28 := Tryd.isAgg53
  z28 := Tryd.sizeOf53
  v28 := Tryd.zeroValue53
  t31 := Tryd.underlying61
  a31 := Tryd.isAgg61
  z31 := Tryd.sizeOf61
  v31 := Tryd.zeroValue61
  t33 := Tryd.underlying55
  a33 := Tryd.isAgg55
  z33 := Tryd.sizeOf55
  v33 := Tryd.zeroValue55
  t36 := Tryd.underlying74
  a36 := Tryd.isAgg74
  z36 := Tryd.sizeOf74
  t37 := Tryd.underlying44
  a37 := Tryd.isAgg44
  z37 := Tryd.sizeOf44
  v37 := Tryd.zeroValue44
  t39 := Tryd.underlying76
  a39 := Tryd.isAgg76
  z39 := Tryd.sizeOf76
  v39 := Tryd.zeroValue76
  t40 := Tryd.underlying77
  a40 := Tryd.isAgg77
  z40 := Tryd.sizeOf77
  v40 := Tryd.zeroValue77 }
open Go.RowKit Go.Lib in
theorem Tryd.bytes_TrimRight (p : Option Addr) (n c : Nat) (xs : List Int) (cutset : ByteArray) (w : World)
    (hx : xs.length = n) (hnc : n ≤ c) (hbig : c ≤ 9223372036854775807) (h1 : Lib.BytesIn w p n xs) (hr : ∀ x ∈ xs, 0 ≤ x ∧ x < 256) (hcs : cutset.size < 4294967281) (hascii : ∀ (j : Nat) b, cutset.data.toList[j]? = some b → b.toNat < 128) :
    Calls Tryd.prog 25 #[.slice p n c, .string cutset] w fun e w' => e = .returned (.slice p (Lib.trimRightS (Lib.bytesOf xs) cutset.data.toList).length c) ∧ Below w.heap.size w w' := Any.bytes_TrimRight_laid Tryd.lays7 (by kernel_rfl) p n c xs cutset w hx hnc hbig h1 hr hcs hascii
def Tryd.lays8_ren : Go.Shelf.Ren := ⟨fun | 8 => 23 | 9 => 37 | 11 => 32 | 12 => 38 | 14 => 39 | 16 => 33 | 17 => 34 | 18 => 54 | 20 => 52 | n => n, fun | 22 => 22 | 9 => 9 | 3 => 3 | 4 => 4 | 5 => 5 | 28 => 53 | 27 => 52 | 0 => 0 | 31 => 61 | 33 => 55 | 21 => 21 | 36 => 74 | 37 => 44 | 40 => 77 | 39 => 76 | n => n, fun | 0 => 1 | 1 => 2 | n => n⟩
theorem Tryd.lays8 : Go.Proofs.SlLaysV.n8 Tryd.prog Tryd.lays8_ren := {
  mixed := by kernel_rfl
  f8 := Tryd.func23.trans (congrArg some (by kernel_rfl))
  f9 := Tryd.func37.trans (congrArg some (by kernel_rfl))
  f11 := Tryd.func32.trans (congrArg some (by kernel_rfl))
  f12 := Tryd.func38.trans (congrArg some (by kernel_rfl))
  f14 := Tryd.func39.trans (congrArg some (by kernel_rfl))
  f16 := Tryd.func33.trans (congrArg some (by kernel_rfl))
  f17 := Tryd.func34.trans (congrArg some (by kernel_rfl))
  f18 := Tryd.func54.trans (congrArg some (by kernel_rfl))
  f20 := Tryd.func52.trans (congrArg some (by kernel_rfl))
  t0 := Tryd.underlying0
  a0 := Tryd.isAgg0
  z0 := Tryd.sizeOf0
  v0 := Tryd.zeroValue0
  t3 := Tryd.underlying3
  a3 := Tryd.isAgg3
  z3 := Tryd.sizeOf3
  v3 := Tryd.zeroValue3
  t4 := Tryd.underlying4
  a4 := Tryd.isAgg4
  z4 := Tryd.sizeOf4
  v4 := Tryd.zeroValue4
  t5 := Tryd.underlying5
  a5 := Tryd.isAgg5
  z5 := Tryd.sizeOf5
  v5 := Tryd.zeroValue5
  t9 := Tryd.underlying9
  a9 := Tryd.isAgg9
  z9 := Tryd.sizeOf9
  v9 := Tryd.zeroValue9
  t21 := Tryd.underlying21
  a21 := Tryd.isAgg21
  z21 := Tryd.sizeOf21
  v21 := Tryd.zeroValue21
  t22 := Tryd.underlying22
  a22 := Tryd.isAgg22
  z22 := Tryd.sizeOf22
  v22 := Tryd.zeroValue22
  t27 := Tryd.underlying52
  a27 := Tryd.isAgg52
  z27 := Tryd.sizeOf52
  t28 := Tryd.underlying53
  a28 := Tryd.isAgg53
  z28 := Tryd.sizeOf53
  v28 := Tryd.zeroValue53
  t31 := Tryd.underlying61
  a31 := Tryd.isAgg61
  z31 := Tryd.sizeOf61
  v31 := Tryd.zeroValue61
  t33 := Tryd.underlying55
  a33 := Tryd.isAgg55
  z33 := Tryd.sizeOf55
  v33 := Tryd.zeroValue55
  t36 := Tryd.underlying74
  a36 := Tryd.isAgg74
  z36 := Tryd.sizeOf74
  t37 := Tryd.underlying44
  a37 := Tryd.isAgg44
  z37 := Tryd.sizeOf44
  v37 := Tryd.zeroValue44
  t39 := Tryd.underlying76
  a39 := Tryd.isAgg76
  z39 := Tryd.sizeOf76
  v39 := Tryd.zeroValue76
  t40 := Tryd.underlying77
  a40 := Tryd.isAgg77
  z40 := Tryd.sizeOf77
  v40 := Tryd.zeroValue77 }
open Go.RowKit Go.Lib in
theorem Tryd.bytes_TrimLeft (p : Option Addr) (n c : Nat) (xs : List Int) (cutset : ByteArray) (w : World)
    (hx : xs.length = n) (hnc : n ≤ c) (hbig : c ≤ 9223372036854775807) (h1 : Lib.BytesIn w p n xs) (hr : ∀ x ∈ xs, 0 ≤ x ∧ x < 256) (hcs : cutset.size < 4294967281) (hascii : ∀ (j : Nat) b, cutset.data.toList[j]? = some b → b.toNat < 128) :
    Calls Tryd.prog 23 #[.slice p n c, .string cutset] w fun e w' => e = .returned (Lib.leftV p n c (n - (Lib.trimLeftS (Lib.bytesOf xs) cutset.data.toList).length)) ∧ Below w.heap.size w w' := Any.bytes_TrimLeft_laid Tryd.lays8 (by kernel_rfl) p n c xs cutset w hx hnc hbig h1 hr hcs hascii
def Tryd.lays4_ren : Go.Shelf.Ren := ⟨fun | 4 => 22 | 5 => 36 | 6 => 47 | 7 => 46 | 8 => 51 | 9 => 50 | 10 => 53 | 11 => 56 | 12 => 58 | n => n, fun | 22 => 22 | 4 => 4 | 3 => 3 | 0 => 0 | 5 => 5 | 29 => 44 | 9 => 9 | 31 => 64 | 30 => 63 | n => n, fun | 0 => 0 | n => n⟩
theorem Tryd.lays4 : Go.Proofs.SlLaysT.n4 Tryd.prog Tryd.lays4_ren := {
  mixed := by kernel_rfl
  f4 := Tryd.func22.trans (congrArg some (by kernel_rfl))
  f5 := Tryd.func36.trans (congrArg some (by kernel_rfl))
  f6 := Tryd.func47.trans (congrArg some (by kernel_rfl))
  f7 := Tryd.func46.trans (congrArg some (by kernel_rfl))
  f8 := Tryd.func51.trans (congrArg some (by kernel_rfl))
  f9 := Tryd.func50.trans (congrArg some (by kernel_rfl))
  f10 := Tryd.func53.trans (congrArg some (by kernel_rfl))
  f11 := Tryd.func56.trans (congrArg some (by kernel_rfl))
  f12 := Tryd.func58.trans (congrArg some (by kernel_rfl))
  t0 := Tryd.underlying0
  a0 := Tryd.isAgg0
  z0 := Tryd.sizeOf0
  v0 := Tryd.zeroValue0
  t3 := Tryd.underlying3
  a3 := Tryd.isAgg3
  z3 := Tryd.sizeOf3
  v3 := Tryd.zeroValue3
  t4 := Tryd.underlying4
  a4 := Tryd.isAgg4
  z4 := Tryd.sizeOf4
  v4 := Tryd.zeroValue4
  t5 := Tryd.underlying5
  a5 := Tryd.isAgg5
  z5 := Tryd.sizeOf5
  v5 := Tryd.zeroValue5
  t9 := Tryd.underlying9
  a9 := Tryd.isAgg9
  z9 := Tryd.sizeOf9
  v9 := Tryd.zeroValue9
  t22 := Tryd.underlying22
  a22 := Tryd.isAgg22
  z22 := Tryd.sizeOf22
  v22 := Tryd.zeroValue22
  t29 := Tryd.underlying44
  a29 := Tryd.isAgg44
  z29 := Tryd.sizeOf44
  v29 := Tryd.zeroValue44
  t30 := Tryd.underlying63
  a30 := Tryd.isAgg63
  z30 := Tryd.sizeOf63
  v30 := Tryd.zeroValue63
  t31 := Tryd.underlying64
  a31 := Tryd.isAgg64
  z31 := Tryd.sizeOf64
  v31 := Tryd.zeroValue64
  g0 := by kernel_rfl }
open Go.RowKit Go.Lib in
theorem Tryd.bytes_Cut (p1 p2 : Option Addr) (n c1 k c2 : Nat) (xs ys : List Int) (m : Int) (w : World) (hx : xs.length = n) (hy : ys.length = k) (hr1 : ∀ x ∈ xs, 0 ≤ x ∧ x < 256) (hr2 : ∀ y ∈ ys, 0 ≤ y ∧ y < 256)
    (h1 : Lib.BytesIn w p1 n xs) (h2 : Lib.BytesIn w p2 k ys) (hp1 : p1 = none → c1 = 0) (hcap : n ≤ c1) (hs : n < 4294967281) (hk : k ≤ 9223372036854775807) (hm : w.cell? ⟨0, 0, none⟩ = some (.int .i64 m)) :
    Calls Tryd.prog 22 #[.slice p1 n c1, .slice p2 k c2] w fun e w' => e = .returned (Lib.cutV p1 n c1 k (Lib.index (Lib.bytesOf xs) (Lib.bytesOf ys))) ∧ ∃ q, w' = w.drewN q := Any.bytes_Cut_all Tryd.lays4 p1 p2 n c1 k c2 xs ys m w hx hy hr1 hr2 h1 h2 hp1 hcap hs hk hm
def Tryd.lays139_ren : Go.Shelf.Ren := ⟨fun | 139 => 20 | 116 => 28 | 115 => 46 | n => n, fun | 37 => 22 | 4 => 4 | 3 => 3 | 9 => 9 | 5 => 5 | n => n, fun | n => n⟩
theorem Tryd.lays139 : Go.Proofs.Lays.nb139 Tryd.prog Tryd.lays139_ren := {
  mixed := by kernel_rfl
  f115 := Tryd.func46.trans (congrArg some (by kernel_rfl))
  f116 := Tryd.func28.trans (congrArg some (by kernel_rfl))
  f139 := Tryd.func20.trans (congrArg some (by kernel_rfl))
  t3 := Tryd.underlying3
  a3 := Tryd.isAgg3
  z3 := Tryd.sizeOf3
  v3 := Tryd.zeroValue3
  t4 := Tryd.underlying4
  a4 := Tryd.isAgg4
  z4 := Tryd.sizeOf4
  v4 := Tryd.zeroValue4
  t9 := Tryd.underlying9
  a9 := Tryd.isAgg9
  z9 := Tryd.sizeOf9
  v9 := Tryd.zeroValue9
  t37 := Tryd.underlying22
  a37 := Tryd.isAgg22
  z37 := Tryd.sizeOf22
  v37 := Tryd.zeroValue22
  t5 := Tryd.underlying5
  a5 := Tryd.isAgg5
  z5 := Tryd.sizeOf5
  v5 := Tryd.zeroValue5 }
open Go.RowKit Go.Lib in
theorem Tryd.bytes_TrimPrefix (p1 p2 : Option Addr) (n c m d : Nat) (xs ys : List Int) (w : World) (hx : xs.length = n) (hy : ys.length = m) (hnc : n ≤ c) (h1 : Lib.BytesIn w p1 n xs) (h2 : Lib.BytesIn w p2 m ys) :
    Calls Tryd.prog 20 #[.slice p1 n c, .slice p2 m d] w fun e w' => e = .returned (Lib.trimPrefixV p1 n c xs ys) ∧ w' = w := Any.bytes_TrimPrefix_all Tryd.lays139 p1 p2 n c m d xs ys w hx hy hnc h1 h2
def Tryd.grow_ren : Go.Shelf.Ren := ⟨fun | 4 => 40 | n => n, fun | 22 => 22 | 25 => 5 | 3 => 3 | 4 => 4 | 9 => 9 | 20 => 20 | 0 => 0 | n => n, fun | n => n⟩
theorem Tryd.grow : Go.Proofs.Lays8.n4 Tryd.prog Tryd.grow_ren := {
  mixed := by kernel_rfl
  f4 := ⟨Tryd.f40.name, by decide, Tryd.func40.trans (congrArg some (by kernel_rfl))⟩
  t0 := Tryd.underlying0
  a0 := Tryd.isAgg0
  z0 := Tryd.sizeOf0
  v0 := Tryd.zeroValue0
  t3 := Tryd.underlying3
  a3 := Tryd.isAgg3
  z3 := Tryd.sizeOf3
  v3 := Tryd.zeroValue3
  t4 := Tryd.underlying4
  a4 := Tryd.isAgg4
  z4 := Tryd.sizeOf4
  v4 := Tryd.zeroValue4
  t9 := Tryd.underlying9
  a9 := Tryd.isAgg9
  z9 := Tryd.sizeOf9
  v9 := Tryd.zeroValue9
  t20 := Tryd.underlying20
  a20 := Tryd.isAgg20
  z20 := Tryd.sizeOf20
  v20 := Tryd.zeroValue20
  t22 := Tryd.underlying22
  a22 := Tryd.isAgg22
  z22 := Tryd.sizeOf22
  v22 := Tryd.zeroValue22 }
end Go.Proofs
