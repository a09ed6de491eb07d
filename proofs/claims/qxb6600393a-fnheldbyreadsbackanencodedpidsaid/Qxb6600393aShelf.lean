/-
  THE LIBRARY CALLS' CONTRACTS AT THIS DUMP, laid by the shelf's tool in plain words: strings.CutPrefix, strings.CutSuffix, internal stringslite.Index (one byte).
-/
import Derived.Shelf.Small.Wraps
import Derived.Shelf.Strings.Search2
import Derived.Test.Qxb6600393aProg
namespace Go.Proofs
open Go.Shelf
def Try.lays103_ren : Go.Shelf.Ren := ⟨fun | 103 => 21 | 210 => 24 | 206 => 27 | n => n, fun | 9 => 9 | 4 => 4 | 24 => 42 | 3 => 3 | n => n, fun | n => n⟩
theorem Try.lays103 : Go.Proofs.Lays.n103 Try.prog Try.lays103_ren := {
  mixed := by kernel_rfl
  f103 := Try.func21.trans (congrArg some (by kernel_rfl))
  f206 := Try.func27.trans (congrArg some (by kernel_rfl))
  f210 := Try.func24.trans (congrArg some (by kernel_rfl))
  t3 := Try.underlying3
  a3 := Try.isAgg3
  z3 := Try.sizeOf3
  v3 := Try.zeroValue3
  t4 := Try.underlying4
  a4 := Try.isAgg4
  z4 := Try.sizeOf4
  v4 := Try.zeroValue4
  t9 := Try.underlying9
  a9 := Try.isAgg9
  z9 := Try.sizeOf9
  v9 := Try.zeroValue9
  t24 := Try.underlying42
  a24 := Try.isAgg42
  z24 := Try.sizeOf42
  v24 := Try.zeroValue42 }
open Go.RowKit in
theorem Try.strings_CutPrefix (s p : ByteArray) (w : World) :
    Calls Try.prog 21 #[.string s, .string p] w fun e w' => e = .returned (.tuple #[.string ⟨(Lib.trimPrefix s.data.toList p.data.toList).toArray⟩, .bool (Lib.hasPrefix s.data.toList p.data.toList)]) ∧ w' = w := Any.strings_CutPrefix Try.lays103 s p w
def Try.lays104_ren : Go.Shelf.Ren := ⟨fun | 104 => 22 | 211 => 25 | 207 => 28 | n => n, fun | 9 => 9 | 4 => 4 | 24 => 42 | 3 => 3 | n => n, fun | n => n⟩
theorem Try.lays104 : Go.Proofs.Lays.n104 Try.prog Try.lays104_ren := {
  mixed := by kernel_rfl
  f104 := Try.func22.trans (congrArg some (by kernel_rfl))
  f207 := Try.func28.trans (congrArg some (by kernel_rfl))
  f211 := Try.func25.trans (congrArg some (by kernel_rfl))
  t3 := Try.underlying3
  a3 := Try.isAgg3
  z3 := Try.sizeOf3
  v3 := Try.zeroValue3
  t4 := Try.underlying4
  a4 := Try.isAgg4
  z4 := Try.sizeOf4
  v4 := Try.zeroValue4
  t9 := Try.underlying9
  a9 := Try.isAgg9
  z9 := Try.sizeOf9
  v9 := Try.zeroValue9
  t24 := Try.underlying42
  a24 := Try.isAgg42
  z24 := Try.sizeOf42
  v24 := Try.zeroValue42 }
open Go.RowKit in
theorem Try.strings_CutSuffix (s p : ByteArray) (w : World) (hs : s.size ≤ 9223372036854775807) :
    Calls Try.prog 22 #[.string s, .string p] w fun e w' => e = .returned (.tuple #[.string ⟨(Lib.trimSuffix s.data.toList p.data.toList).toArray⟩, .bool (Lib.hasSuffix s.data.toList p.data.toList)]) ∧ w' = w := Any.strings_CutSuffix Try.lays104 s p w hs
def Try.lays219_ren : Go.Shelf.Ren := ⟨fun | 219 => 29 | 217 => 30 | 225 => 31 | 224 => 32 | 267 => 33 | 266 => 34 | 314 => 35 | n => n, fun | 9 => 9 | 3 => 3 | 4 => 4 | 5 => 5 | 46 => 50 | 146 => 52 | 51 => 51 | n => n, fun | 1 => 0 | n => n⟩
theorem Try.lays219 : Go.Proofs.Lays.n219 Try.prog Try.lays219_ren := {
  mixed := by kernel_rfl
  f217 := Try.func30.trans (congrArg some (by kernel_rfl))
  f219 := Try.func29.trans (congrArg some (by kernel_rfl))
  f224 := Try.func32.trans (congrArg some (by kernel_rfl))
  f225 := Try.func31.trans (congrArg some (by kernel_rfl))
  f266 := Try.func34.trans (congrArg some (by kernel_rfl))
  f267 := Try.func33.trans (congrArg some (by kernel_rfl))
  f314 := Try.func35.trans (congrArg some (by kernel_rfl))
  t3 := Try.underlying3
  a3 := Try.isAgg3
  z3 := Try.sizeOf3
  v3 := Try.zeroValue3
  t4 := Try.underlying4
  a4 := Try.isAgg4
  z4 := Try.sizeOf4
  v4 := Try.zeroValue4
  t5 := Try.underlying5
  a5 := Try.isAgg5
  z5 := Try.sizeOf5
  v5 := Try.zeroValue5
  t9 := Try.underlying9
  a9 := Try.isAgg9
  z9 := Try.sizeOf9
  v9 := Try.zeroValue9
  t46 := Try.underlying50
  a46 := Try.isAgg50
  z46 := Try.sizeOf50
  v46 := Try.zeroValue50
  t51 := Try.underlying51
  a51 := Try.isAgg51
  z51 := Try.sizeOf51
  v51 := Try.zeroValue51
  t146 := Try.underlying52
  a146 := Try.isAgg52
  z146 := Try.sizeOf52
  v146 := Try.zeroValue52
  g1 := by kernel_rfl }
open Go.RowKit Go.Lib in
theorem Try.stringslite_Index_one (s : ByteArray) (c : UInt8) (w : World) :
    Calls Try.prog 29 #[.string s, .string ⟨#[c]⟩] w fun e w' => e = .returned (.int .i64 (Lib.indexByte s.data.toList c)) ∧ w' = w := Any.stringslite_Index_one Try.lays219 s c w
end Go.Proofs
