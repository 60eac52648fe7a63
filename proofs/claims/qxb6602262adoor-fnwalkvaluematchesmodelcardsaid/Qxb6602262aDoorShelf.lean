/-
  Seat b6602262aD: the shelf's contracts for bytes.IndexByte, unicode/utf8.DecodeRune, bytes.makeASCIISet and its reader at this dump, written by the shelf's own tool.
-/
import Derived.Shelf.Bytes.SlIndexAt
import Derived.Shelf.Spec.DecodeRune
import Derived.Shelf.Bytes.SlTrimWalks
import Derived.Test.Qxb6602262aDoorProg
namespace Go.Proofs
open Go.Shelf
def Tryd.lays187_ren : Go.Shelf.Ren := ⟨fun | 187 => 16 | 255 => 24 | n => n, fun | 37 => 22 | 5 => 5 | 3 => 3 | n => n, fun | n => n⟩
theorem Tryd.lays187 : Go.Proofs.Lays.n187 Tryd.prog Tryd.lays187_ren := {
  mixed := by kernel_rfl
  f187 := Tryd.func16.trans (congrArg some (by kernel_rfl))
  f255 := Tryd.func24.trans (congrArg some (by kernel_rfl))
  t3 := Tryd.underlying3
  a3 := Tryd.isAgg3
  z3 := Tryd.sizeOf3
  v3 := Tryd.zeroValue3
  t5 := Tryd.underlying5
  a5 := Tryd.isAgg5
  z5 := Tryd.sizeOf5
  v5 := Tryd.zeroValue5
  t37 := Tryd.underlying22
  a37 := Tryd.isAgg22
  z37 := Tryd.sizeOf22
  v37 := Tryd.zeroValue22 }
open Go.RowKit Go.Lib in
theorem Tryd.bytes_IndexByte_at (a : Addr) (n c : Nat) (xs : List Int) (cv : Int) (w : World) (hx : xs.length = n) (hc : ∀ i, i < n → w.cell? (a.add i) = some (.int .u8 (xs.getD i 0))) :
    Calls Tryd.prog 16 #[.slice (some a) n c, .int .u8 cv] w fun e w' => e = .returned (.int .i64 (Lib.indexByte (Lib.bytesOf xs) cv.toNat.toUInt8)) ∧ w' = w := Any.bytes_IndexByte_at Tryd.lays187 a n c xs cv w hx hc
def Tryd.lays7_32_ren : Go.Shelf.Ren := ⟨fun | 32 => 22 | 49 => 29 | n => n, fun | 30 => 22 | 21 => 21 | 3 => 3 | 0 => 0 | 5 => 5 | 4 => 4 | 33 => 38 | 66 => 48 | 25 => 44 | 69 => 51 | 68 => 50 | n => n, fun | 2 => 1 | 3 => 2 | n => n⟩
theorem Tryd.lays7_32 : Go.Proofs.Lays7.n32 Tryd.prog Tryd.lays7_32_ren := {
  mixed := by kernel_rfl
  f32 := Tryd.func22.trans (congrArg some (by kernel_rfl))
  f49 := Tryd.func29.trans (congrArg some (by kernel_rfl))
  t0 := Tryd.underlying0
  a0 := Tryd.isAgg0
  z0 := Tryd.sizeOf0
  v0 := Tryd.zeroValue0
  i0 := by kernel_rfl
  t3 := Tryd.underlying3
  a3 := Tryd.isAgg3
  z3 := Tryd.sizeOf3
  v3 := Tryd.zeroValue3
  i3 := by kernel_rfl
  t4 := Tryd.underlying4
  a4 := Tryd.isAgg4
  z4 := Tryd.sizeOf4
  v4 := Tryd.zeroValue4
  i4 := by kernel_rfl
  t5 := Tryd.underlying5
  a5 := Tryd.isAgg5
  z5 := Tryd.sizeOf5
  v5 := Tryd.zeroValue5
  i5 := by kernel_rfl
  t21 := Tryd.underlying21
  a21 := Tryd.isAgg21
  z21 := Tryd.sizeOf21
  v21 := Tryd.zeroValue21
  i21 := by kernel_rfl
  t25 := Tryd.underlying44
  a25 := Tryd.isAgg44
  z25 := Tryd.sizeOf44
  v25 := Tryd.zeroValue44
  i25 := by kernel_rfl
  t30 := Tryd.underlying22
  a30 := Tryd.isAgg22
  z30 := Tryd.sizeOf22
  v30 := Tryd.zeroValue22
  i30 := by kernel_rfl
  t33 := Tryd.underlying38
  a33 := Tryd.isAgg38
  z33 := Tryd.sizeOf38
  v33 := Tryd.zeroValue38
  i33 := by kernel_rfl
  t66 := Tryd.underlying48
  a66 := Tryd.isAgg48
  z66 := Tryd.sizeOf48
  t68 := Tryd.underlying50
  a68 := Tryd.isAgg50
  z68 := Tryd.sizeOf50
  v68 := Tryd.zeroValue50
  i68 := by kernel_rfl
  t69 := Tryd.underlying51
  a69 := Tryd.isAgg51
  z69 := Tryd.sizeOf51
  v69 := Tryd.zeroValue51
  i69 := by kernel_rfl
  g2 := by kernel_rfl
  g3 := by kernel_rfl }
open Go.RowKit Go.Lib in
theorem Tryd.utf8_DecodeRune (s : ByteArray) (b off cap : Nat) (w : World) (hT : Lib.Utf8Tabs (Tryd.lays7_32_ren.g 2) (Tryd.lays7_32_ren.g 3) w)
    (hp : ∀ j, j < s.size → w.cell? ⟨b, off + j, none⟩ = some (.int .u8 (s.get! j).toNat)) :
    Calls Tryd.prog 22 #[.slice (some ⟨b, off, none⟩) s.size cap] w fun e w' => e = .returned (.tuple #[.int .i32 (Lib.decodeGo s).1, .int .i64 (Lib.decodeGo s).2]) ∧ Below w.heap.size w w' := Any7.utf8_DecodeRune Tryd.lays7_32 s b off cap w hT hp
def Tryd.lays11_ren : Go.Shelf.Ren := ⟨fun | 11 => 20 | n => n, fun | 9 => 9 | 27 => 35 | 4 => 4 | 0 => 0 | 3 => 3 | 5 => 5 | n => n, fun | n => n⟩
theorem Tryd.lays11 : Go.Proofs.SlLaysV.n11 Tryd.prog Tryd.lays11_ren := {
  mixed := by kernel_rfl
  f11 := Tryd.func20.trans (congrArg some (by kernel_rfl))
  t0 := Tryd.underlying0
  a0 := Tryd.isAgg0
  z0 := Tryd.sizeOf0
  v0 := Tryd.zeroValue0
  t3 := Tryd.underlying3
  a3 := Tryd.isAgg3
  z3 := Tryd.sizeOf3
  v3 := Tryd.zeroValue3
  t4 := Tryd.underlying4
  a4 := Tryd.isAgg4
  z4 := Tryd.sizeOf4
  v4 := Tryd.zeroValue4
  t5 := Tryd.underlying5
  a5 := Tryd.isAgg5
  z5 := Tryd.sizeOf5
  v5 := Tryd.zeroValue5
  t9 := Tryd.underlying9
  a9 := Tryd.isAgg9
  z9 := Tryd.sizeOf9
  v9 := Tryd.zeroValue9
  t27 := Tryd.underlying35
  a27 := Tryd.isAgg35
  z27 := Tryd.sizeOf35 }
open Go.RowKit Go.Lib in
theorem Tryd.bytes_makeASCIISet (chars : ByteArray) (w : World) (hs : chars.size < 4294967281)
    (hascii : ∀ (j : Nat) b, chars.data.toList[j]? = some b → b.toNat < 128) :
    Calls Tryd.prog 20 #[.string chars] w fun e w' => e = .returned (.tuple #[.agg (Lib.setCells chars.data.toList), .bool true]) ∧ w' = w.alloc (.cells (Lib.setCells chars.data.toList) 35) := Any.bytes_makeASCIISet Tryd.lays11 (fun _ => by kernel_rfl) (by kernel_rfl) chars w hs hascii
def Tryd.lays16_ren : Go.Shelf.Ren := ⟨fun | 16 => 21 | n => n, fun | 31 => 46 | 5 => 5 | 4 => 4 | 0 => 0 | 27 => 35 | n => n, fun | n => n⟩
theorem Tryd.lays16 : Go.Proofs.SlLaysV.n16 Tryd.prog Tryd.lays16_ren := {
  mixed := by kernel_rfl
  f16 := Tryd.func21.trans (congrArg some (by kernel_rfl))
  t0 := Tryd.underlying0
  a0 := Tryd.isAgg0
  z0 := Tryd.sizeOf0
  v0 := Tryd.zeroValue0
  t4 := Tryd.underlying4
  a4 := Tryd.isAgg4
  z4 := Tryd.sizeOf4
  v4 := Tryd.zeroValue4
  t5 := Tryd.underlying5
  a5 := Tryd.isAgg5
  z5 := Tryd.sizeOf5
  v5 := Tryd.zeroValue5
  t27 := Tryd.underlying35
  a27 := Tryd.isAgg35
  z27 := Tryd.sizeOf35
  t31 := Tryd.underlying46
  a31 := Tryd.isAgg46
  z31 := Tryd.sizeOf46
  v31 := Tryd.zeroValue46 }
open Go.RowKit Go.Lib in
theorem Tryd.bytes_asciiSet_contains (b : Nat) (x : UInt8) (v : Bool) (w : World) (hc : w.cell? ⟨b, x.toNat, none⟩ = some (.bool v)) :
    Calls Tryd.prog 21 #[.pointer (some ⟨b, 0, none⟩), .int .u8 x.toNat] w fun e w' => e = .returned (.bool v) ∧ w' = w := Any.bytes_asciiSet_contains Tryd.lays16 b x v w hc
end Go.Proofs
