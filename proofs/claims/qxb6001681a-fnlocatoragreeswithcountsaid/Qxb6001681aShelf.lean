/-
  THE LIBRARY CALLS' CONTRACTS AT THIS DUMP, laid by the shelf's tool in plain words: strings.IndexByte, strings.Count (one byte), strings.LastIndexByte.
-/
import Derived.Shelf.Small.Strs
import Derived.Shelf.Strings.Count
import Derived.Shelf.Strings.LastIndex
import Derived.Test.Qxb6001681aProg
namespace Go.Proofs
open Go.Shelf
def Try.lays137_ren : Go.Shelf.Ren := ⟨fun | 137 => 30 | 217 => 39 | 266 => 43 | n => n, fun | 9 => 9 | 5 => 5 | 3 => 3 | n => n, fun | n => n⟩
theorem Try.lays137 : Go.Proofs.Lays.n137 Try.prog Try.lays137_ren := {
  mixed := by kernel_rfl
  f137 := Try.func30.trans (congrArg some (by kernel_rfl))
  f217 := Try.func39.trans (congrArg some (by kernel_rfl))
  f266 := Try.func43.trans (congrArg some (by kernel_rfl))
  t3 := Try.underlying3
  a3 := Try.isAgg3
  z3 := Try.sizeOf3
  v3 := Try.zeroValue3
  t5 := Try.underlying5
  a5 := Try.isAgg5
  z5 := Try.sizeOf5
  v5 := Try.zeroValue5
  t9 := Try.underlying9
  a9 := Try.isAgg9
  z9 := Try.sizeOf9
  v9 := Try.zeroValue9 }
open Go.RowKit in
theorem Try.strings_IndexByte (s : ByteArray) (c : Int) (w : World) :
    Calls Try.prog 30 #[.string s, .int .u8 c] w fun e w' => e = .returned (.int .i64 (Lib.indexByte s.data.toList c.toNat.toUInt8)) ∧ w' = w := Any.strings_IndexByte Try.lays137 s c w
def Try.lays138_ren : Go.Shelf.Ren := ⟨fun | 138 => 29 | 195 => 36 | 218 => 37 | 143 => 38 | 219 => 42 | 217 => 39 | 225 => 48 | 224 => 49 | 267 => 50 | 266 => 43 | 314 => 52 | n => n, fun | 9 => 9 | 3 => 3 | 4 => 4 | 5 => 5 | 0 => 0 | 46 => 47 | 146 => 73 | 51 => 72 | n => n, fun | 1 => 0 | n => n⟩
theorem Try.lays138 : Go.Proofs.Lays.n138 Try.prog Try.lays138_ren := {
  mixed := by kernel_rfl
  f138 := Try.func29.trans (congrArg some (by kernel_rfl))
  f143 := Try.func38.trans (congrArg some (by kernel_rfl))
  f195 := Try.func36.trans (congrArg some (by kernel_rfl))
  f217 := Try.func39.trans (congrArg some (by kernel_rfl))
  f218 := Try.func37.trans (congrArg some (by kernel_rfl))
  f219 := Try.func42.trans (congrArg some (by kernel_rfl))
  f224 := Try.func49.trans (congrArg some (by kernel_rfl))
  f225 := Try.func48.trans (congrArg some (by kernel_rfl))
  f266 := Try.func43.trans (congrArg some (by kernel_rfl))
  f267 := Try.func50.trans (congrArg some (by kernel_rfl))
  f314 := Try.func52.trans (congrArg some (by kernel_rfl))
  t0 := Try.underlying0
  a0 := Try.isAgg0
  z0 := Try.sizeOf0
  v0 := Try.zeroValue0
  t3 := Try.underlying3
  a3 := Try.isAgg3
  z3 := Try.sizeOf3
  v3 := Try.zeroValue3
  t4 := Try.underlying4
  a4 := Try.isAgg4
  z4 := Try.sizeOf4
  v4 := Try.zeroValue4
  t5 := Try.underlying5
  a5 := Try.isAgg5
  z5 := Try.sizeOf5
  v5 := Try.zeroValue5
  t9 := Try.underlying9
  a9 := Try.isAgg9
  z9 := Try.sizeOf9
  v9 := Try.zeroValue9
  t46 := Try.underlying47
  a46 := Try.isAgg47
  z46 := Try.sizeOf47
  v46 := Try.zeroValue47
  t51 := Try.underlying72
  a51 := Try.isAgg72
  z51 := Try.sizeOf72
  v51 := Try.zeroValue72
  t146 := Try.underlying73
  a146 := Try.isAgg73
  z146 := Try.sizeOf73
  v146 := Try.zeroValue73
  g1 := by kernel_rfl }
open Go.RowKit Go.Lib in
theorem Try.strings_Count_one (s : ByteArray) (c : UInt8) (w : World) :
    Calls Try.prog 29 #[.string s, .string ⟨#[c]⟩] w fun e w' => e = .returned (.int .i64 (Lib.countByte s.data.toList c)) ∧ w' = w := Any.strings_Count_one Try.lays138 s c w
def Try.lays149_ren : Go.Shelf.Ren := ⟨fun | 149 => 28 | 222 => 35 | n => n, fun | 9 => 9 | 5 => 5 | 3 => 3 | 4 => 4 | n => n, fun | n => n⟩
theorem Try.lays149 : Go.Proofs.Lays.n149 Try.prog Try.lays149_ren := {
  mixed := by kernel_rfl
  f149 := Try.func28.trans (congrArg some (by kernel_rfl))
  f222 := Try.func35.trans (congrArg some (by kernel_rfl))
  t3 := Try.underlying3
  a3 := Try.isAgg3
  z3 := Try.sizeOf3
  v3 := Try.zeroValue3
  t4 := Try.underlying4
  a4 := Try.isAgg4
  z4 := Try.sizeOf4
  v4 := Try.zeroValue4
  t5 := Try.underlying5
  a5 := Try.isAgg5
  z5 := Try.sizeOf5
  v5 := Try.zeroValue5
  t9 := Try.underlying9
  a9 := Try.isAgg9
  z9 := Try.sizeOf9
  v9 := Try.zeroValue9 }
open Go.RowKit Go.Lib in
theorem Try.strings_LastIndexByte (s : ByteArray) (c : Int) (hs : s.size < 4611686018427387904) (w : World) :
    Calls Try.prog 28 #[.string s, .int .u8 c] w fun e w' => e = .returned (.int .i64 (Lib.lastIndexByte s c)) ∧ w' = w := Any.strings_LastIndexByte Try.lays149 s c hs w
end Go.Proofs
