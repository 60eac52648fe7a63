/-
  Seat b6602465aD: the shelf's contracts for strings.TrimLeft, TrimRight, Contains and TrimSuffix at this dump, written by the shelf's own tool.
-/
import Derived.Shelf.Strings.Trim
import Derived.Shelf.Strings.Prefix
import Derived.Shelf.Strings.Search3
import Derived.Test.Qxb6602465aDoorProg
namespace Go.Proofs
open Go.Shelf
def Tryd.lays161_ren : Go.Shelf.Ren := ⟨fun | 161 => 25 | 231 => 32 | 227 => 29 | 233 => 33 | 235 => 34 | 228 => 37 | 197 => 40 | 151 => 39 | 260 => 47 | 152 => 46 | 137 => 50 | 119 => 51 | 224 => 43 | 225 => 42 | 217 => 41 | 266 => 48 | n => n, fun | 9 => 9 | 4 => 4 | 3 => 3 | 5 => 5 | 117 => 39 | 116 => 38 | 0 => 0 | 124 => 42 | 105 => 44 | 21 => 21 | 119 => 55 | 46 => 49 | 139 => 58 | 138 => 57 | n => n, fun | 3 => 1 | 4 => 2 | n => n⟩
theorem Tryd.lays161 : Go.Proofs.Lays.n161 Tryd.prog Tryd.lays161_ren := {
  mixed := by kernel_rfl
  f119 := Tryd.func51.trans (congrArg some (by kernel_rfl))
  f137 := Tryd.func50.trans (congrArg some (by kernel_rfl))
  f151 := Tryd.func39.trans (congrArg some (by kernel_rfl))
  f152 := Tryd.func46.trans (congrArg some (by kernel_rfl))
  f161 := Tryd.func25.trans (congrArg some (by kernel_rfl))
  f197 := Tryd.func40.trans (congrArg some (by kernel_rfl))
  f217 := Tryd.func41.trans (congrArg some (by kernel_rfl))
  f224 := Tryd.func43.trans (congrArg some (by kernel_rfl))
  f225 := Tryd.func42.trans (congrArg some (by kernel_rfl))
  f227 := Tryd.func29.trans (congrArg some (by kernel_rfl))
  f228 := Tryd.func37.trans (congrArg some (by kernel_rfl))
  f231 := Tryd.func32.trans (congrArg some (by kernel_rfl))
  f233 := Tryd.func33.trans (congrArg some (by kernel_rfl))
  f235 := Tryd.func34.trans (congrArg some (by kernel_rfl))
  f260 := Tryd.func47.trans (congrArg some (by kernel_rfl))
  f266 := Tryd.func48.trans (congrArg some (by kernel_rfl))
  t0 := Tryd.underlying0
  a0 := Tryd.isAgg0
  z0 := Tryd.sizeOf0
  v0 := Tryd.zeroValue0
  t3 := Tryd.underlying3
  a3 := Tryd.isAgg3
  z3 := Tryd.sizeOf3
  v3 := Tryd.zeroValue3
  t4 := Tryd.underlying4
  a4 := Tryd.isAgg4
  z4 := Tryd.sizeOf4
  v4 := Tryd.zeroValue4
  t5 := Tryd.underlying5
  a5 := Tryd.isAgg5
  z5 := Tryd.sizeOf5
  v5 := Tryd.zeroValue5
  t9 := Tryd.underlying9
  a9 := Tryd.isAgg9
  z9 := Tryd.sizeOf9
  v9 := Tryd.zeroValue9
  t21 := Tryd.underlying21
  a21 := Tryd.isAgg21
  z21 := Tryd.sizeOf21
  v21 := Tryd.zeroValue21
  t46 := Tryd.underlying49
  a46 := Tryd.isAgg49
  z46 := Tryd.sizeOf49
  v46 := Tryd.zeroValue49
  t105 := Tryd.underlying44
  a105 := Tryd.isAgg44
  z105 := Tryd.sizeOf44
  v105 := Tryd.zeroValue44
  t116 := Tryd.underlying38
  a116 := Tryd.isAgg38
  z116 := Tryd.sizeOf38
  t117 := Tryd.underlying39
  a117 := Tryd.isAgg39
  z117 := Tryd.sizeOf39
  v117 := Tryd.zeroValue39
  t119 := Tryd.underlying55
  a119 := Tryd.isAgg55
  z119 := Tryd.sizeOf55
  t124 := Tryd.underlying42
  a124 := Tryd.isAgg42
  z124 := Tryd.sizeOf42
  v124 := Tryd.zeroValue42
  t138 := Tryd.underlying57
  a138 := Tryd.isAgg57
  z138 := Tryd.sizeOf57
  v138 := Tryd.zeroValue57
  t139 := Tryd.underlying58
  a139 := Tryd.isAgg58
  z139 := Tryd.sizeOf58
  v139 := Tryd.zeroValue58
  g3 := by kernel_rfl
  g4 := by kernel_rfl }
open Go.RowKit Go.Lib in
theorem Tryd.strings_TrimLeft_one (s : ByteArray) (c : UInt8) (hc : c.toNat < 128) (w : World) :
    Calls Tryd.prog 25 #[.string s, .string ⟨#[c]⟩] w fun e w' => e = .returned (.string ⟨(Lib.trimLeftB s.data.toList c).toArray⟩) ∧ w' = w := Any.strings_TrimLeft_one Tryd.lays161 s c hc w
def Tryd.lays162_ren : Go.Shelf.Ren := ⟨fun | 162 => 24 | 232 => 28 | 227 => 29 | 234 => 30 | 236 => 31 | 228 => 37 | 271 => 38 | 151 => 39 | 120 => 45 | 197 => 40 | 152 => 46 | 260 => 47 | 137 => 50 | 119 => 51 | 224 => 43 | 225 => 42 | 217 => 41 | 266 => 48 | n => n, fun | 9 => 9 | 4 => 4 | 3 => 3 | 5 => 5 | 117 => 39 | 116 => 38 | 0 => 0 | 124 => 42 | 21 => 21 | 105 => 44 | 46 => 49 | 119 => 55 | 139 => 58 | 138 => 57 | n => n, fun | 3 => 1 | 4 => 2 | n => n⟩
theorem Tryd.lays162 : Go.Proofs.Lays.n162 Tryd.prog Tryd.lays162_ren := {
  mixed := by kernel_rfl
  f119 := Tryd.func51.trans (congrArg some (by kernel_rfl))
  f120 := Tryd.func45.trans (congrArg some (by kernel_rfl))
  f137 := Tryd.func50.trans (congrArg some (by kernel_rfl))
  f151 := Tryd.func39.trans (congrArg some (by kernel_rfl))
  f152 := Tryd.func46.trans (congrArg some (by kernel_rfl))
  f162 := Tryd.func24.trans (congrArg some (by kernel_rfl))
  f197 := Tryd.func40.trans (congrArg some (by kernel_rfl))
  f217 := Tryd.func41.trans (congrArg some (by kernel_rfl))
  f224 := Tryd.func43.trans (congrArg some (by kernel_rfl))
  f225 := Tryd.func42.trans (congrArg some (by kernel_rfl))
  f227 := Tryd.func29.trans (congrArg some (by kernel_rfl))
  f228 := Tryd.func37.trans (congrArg some (by kernel_rfl))
  f232 := Tryd.func28.trans (congrArg some (by kernel_rfl))
  f234 := Tryd.func30.trans (congrArg some (by kernel_rfl))
  f236 := Tryd.func31.trans (congrArg some (by kernel_rfl))
  f260 := Tryd.func47.trans (congrArg some (by kernel_rfl))
  f266 := Tryd.func48.trans (congrArg some (by kernel_rfl))
  f271 := Tryd.func38.trans (congrArg some (by kernel_rfl))
  t0 := Tryd.underlying0
  a0 := Tryd.isAgg0
  z0 := Tryd.sizeOf0
  v0 := Tryd.zeroValue0
  t3 := Tryd.underlying3
  a3 := Tryd.isAgg3
  z3 := Tryd.sizeOf3
  v3 := Tryd.zeroValue3
  t4 := Tryd.underlying4
  a4 := Tryd.isAgg4
  z4 := Tryd.sizeOf4
  v4 := Tryd.zeroValue4
  t5 := Tryd.underlying5
  a5 := Tryd.isAgg5
  z5 := Tryd.sizeOf5
  v5 := Tryd.zeroValue5
  t9 := Tryd.underlying9
  a9 := Tryd.isAgg9
  z9 := Tryd.sizeOf9
  v9 := Tryd.zeroValue9
  t21 := Tryd.underlying21
  a21 := Tryd.isAgg21
  z21 := Tryd.sizeOf21
  v21 := Tryd.zeroValue21
  t46 := Tryd.underlying49
  a46 := Tryd.isAgg49
  z46 := Tryd.sizeOf49
  v46 := Tryd.zeroValue49
  t105 := Tryd.underlying44
  a105 := Tryd.isAgg44
  z105 := Tryd.sizeOf44
  v105 := Tryd.zeroValue44
  t116 := Tryd.underlying38
  a116 := Tryd.isAgg38
  z116 := Tryd.sizeOf38
  t117 := Tryd.underlying39
  a117 := Tryd.isAgg39
  z117 := Tryd.sizeOf39
  v117 := Tryd.zeroValue39
  t119 := Tryd.underlying55
  a119 := Tryd.isAgg55
  z119 := Tryd.sizeOf55
  t124 := Tryd.underlying42
  a124 := Tryd.isAgg42
  z124 := Tryd.sizeOf42
  v124 := Tryd.zeroValue42
  t138 := Tryd.underlying57
  a138 := Tryd.isAgg57
  z138 := Tryd.sizeOf57
  v138 := Tryd.zeroValue57
  t139 := Tryd.underlying58
  a139 := Tryd.isAgg58
  z139 := Tryd.sizeOf58
  v139 := Tryd.zeroValue58
  g3 := by kernel_rfl
  g4 := by kernel_rfl }
open Go.RowKit Go.Lib in
theorem Tryd.strings_TrimRight_one (s : ByteArray) (c : UInt8) (hc : c.toNat < 128) (w : World) (hs : s.size ≤ 9223372036854775807) :
    Calls Tryd.prog 24 #[.string s, .string ⟨#[c]⟩] w fun e w' => e = .returned (.string ⟨(Lib.trimRightB s.data.toList c).toArray⟩) ∧ w' = w := Any.strings_TrimRight_one Tryd.lays162 s c hc w hs
def Tryd.lays144_ren : Go.Shelf.Ren := ⟨fun | 144 => 22 | 143 => 26 | 219 => 35 | 217 => 41 | 225 => 42 | 224 => 43 | 267 => 44 | 266 => 48 | 314 => 49 | n => n, fun | 9 => 9 | 4 => 4 | 3 => 3 | 5 => 5 | 46 => 49 | 146 => 52 | 51 => 51 | n => n, fun | 1 => 0 | n => n⟩
theorem Tryd.lays144 : Go.Proofs.Lays.n144 Tryd.prog Tryd.lays144_ren := {
  mixed := by kernel_rfl
  f143 := Tryd.func26.trans (congrArg some (by kernel_rfl))
  f144 := Tryd.func22.trans (congrArg some (by kernel_rfl))
  f217 := Tryd.func41.trans (congrArg some (by kernel_rfl))
  f219 := Tryd.func35.trans (congrArg some (by kernel_rfl))
  f224 := Tryd.func43.trans (congrArg some (by kernel_rfl))
  f225 := Tryd.func42.trans (congrArg some (by kernel_rfl))
  f266 := Tryd.func48.trans (congrArg some (by kernel_rfl))
  f267 := Tryd.func44.trans (congrArg some (by kernel_rfl))
  f314 := Tryd.func49.trans (congrArg some (by kernel_rfl))
  t3 := Tryd.underlying3
  a3 := Tryd.isAgg3
  z3 := Tryd.sizeOf3
  v3 := Tryd.zeroValue3
  t4 := Tryd.underlying4
  a4 := Tryd.isAgg4
  z4 := Tryd.sizeOf4
  v4 := Tryd.zeroValue4
  t5 := Tryd.underlying5
  a5 := Tryd.isAgg5
  z5 := Tryd.sizeOf5
  v5 := Tryd.zeroValue5
  t9 := Tryd.underlying9
  a9 := Tryd.isAgg9
  z9 := Tryd.sizeOf9
  v9 := Tryd.zeroValue9
  t46 := Tryd.underlying49
  a46 := Tryd.isAgg49
  z46 := Tryd.sizeOf49
  v46 := Tryd.zeroValue49
  t51 := Tryd.underlying51
  a51 := Tryd.isAgg51
  z51 := Tryd.sizeOf51
  v51 := Tryd.zeroValue51
  t146 := Tryd.underlying52
  a146 := Tryd.isAgg52
  z146 := Tryd.sizeOf52
  v146 := Tryd.zeroValue52
  g1 := by kernel_rfl }
open Go.RowKit Go.Lib in
theorem Tryd.strings_Contains_one (s : ByteArray) (c : UInt8) (w : World) :
    Calls Tryd.prog 22 #[.string s, .string ⟨#[c]⟩] w fun e w' => e = .returned (.bool (decide (0 ≤ Lib.indexByte s.data.toList c))) ∧ w' = w := Any.strings_Contains_one Tryd.lays144 s c w
def Tryd.lays102_ren : Go.Shelf.Ren := ⟨fun | 102 => 23 | 209 => 27 | 207 => 36 | n => n, fun | 9 => 9 | 4 => 4 | 3 => 3 | n => n, fun | n => n⟩
theorem Tryd.lays102 : Go.Proofs.Lays.n102 Tryd.prog Tryd.lays102_ren := {
  mixed := by kernel_rfl
  f102 := Tryd.func23.trans (congrArg some (by kernel_rfl))
  f207 := Tryd.func36.trans (congrArg some (by kernel_rfl))
  f209 := Tryd.func27.trans (congrArg some (by kernel_rfl))
  t3 := Tryd.underlying3
  a3 := Tryd.isAgg3
  z3 := Tryd.sizeOf3
  v3 := Tryd.zeroValue3
  t4 := Tryd.underlying4
  a4 := Tryd.isAgg4
  z4 := Tryd.sizeOf4
  v4 := Tryd.zeroValue4
  t9 := Tryd.underlying9
  a9 := Tryd.isAgg9
  z9 := Tryd.sizeOf9
  v9 := Tryd.zeroValue9 }
open Go.RowKit Go.Lib in
theorem Tryd.strings_TrimSuffix (s p : ByteArray) (w : World) (hs : s.size ≤ 9223372036854775807) :
    Calls Tryd.prog 23 #[.string s, .string p] w fun e w' => e = .returned (.string ⟨(Lib.trimSuffix s.data.toList p.data.toList).toArray⟩) ∧ w' = w := Any.strings_TrimSuffix Tryd.lays102 s p w hs
end Go.Proofs
