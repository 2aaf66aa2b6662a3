-- The contracts of the called functions of package strings at this translation, laid by the tools of the kit in plain words.
import Derived.Shelf.Small.Strs
import Derived.Shelf.Small.Wraps
import Derived.Shelf.Strings.Search1
import Derived.Shelf.Strings.Prefix
import Derived.Test.Qxb6606332aModsProg
namespace Go.Proofs
open Go.Shelf
def Trym.lays137_ren : Go.Shelf.Ren := ⟨fun | 137 => 21 | 217 => 27 | 266 => 30 | n => n, fun | 9 => 9 | 5 => 5 | 3 => 3 | n => n, fun | n => n⟩
theorem Trym.lays137 : Go.Proofs.Lays.n137 Trym.prog Trym.lays137_ren := {
  mixed := by kernel_rfl
  f137 := Trym.func21.trans (congrArg some (by kernel_rfl))
  f217 := Trym.func27.trans (congrArg some (by kernel_rfl))
  f266 := Trym.func30.trans (congrArg some (by kernel_rfl))
  t3 := Trym.underlying3
  a3 := Trym.isAgg3
  z3 := Trym.sizeOf3
  v3 := Trym.zeroValue3
  t5 := Trym.underlying5
  a5 := Trym.isAgg5
  z5 := Trym.sizeOf5
  v5 := Trym.zeroValue5
  t9 := Trym.underlying9
  a9 := Trym.isAgg9
  z9 := Trym.sizeOf9
  v9 := Trym.zeroValue9 }
open Go.RowKit in
theorem Trym.strings_IndexByte (s : ByteArray) (c : Int) (w : World) :
    Calls Trym.prog 21 #[.string s, .int .u8 c] w fun e w' => e = .returned (.int .i64 (Lib.indexByte s.data.toList c.toNat.toUInt8)) ∧ w' = w := Any.strings_IndexByte Trym.lays137 s c w
def Trym.lays210_ren : Go.Shelf.Ren := ⟨fun | 210 => 28 | 206 => 26 | n => n, fun | 9 => 9 | 4 => 4 | 3 => 3 | n => n, fun | n => n⟩
theorem Trym.lays210 : Go.Proofs.Lays.n210 Trym.prog Trym.lays210_ren := {
  mixed := by kernel_rfl
  f206 := Trym.func26.trans (congrArg some (by kernel_rfl))
  f210 := Trym.func28.trans (congrArg some (by kernel_rfl))
  t3 := Trym.underlying3
  a3 := Trym.isAgg3
  z3 := Trym.sizeOf3
  v3 := Trym.zeroValue3
  t4 := Trym.underlying4
  a4 := Trym.isAgg4
  z4 := Trym.sizeOf4
  v4 := Trym.zeroValue4
  t9 := Trym.underlying9
  a9 := Trym.isAgg9
  z9 := Trym.sizeOf9
  v9 := Trym.zeroValue9 }
open Go.RowKit in
theorem Trym.stringslite_CutPrefix (s p : ByteArray) (w : World) :
    Calls Trym.prog 28 #[.string s, .string p] w fun e w' => e = .returned (.tuple #[.string ⟨(Lib.trimPrefix s.data.toList p.data.toList).toArray⟩, .bool (Lib.hasPrefix s.data.toList p.data.toList)]) ∧ w' = w := Any.stringslite_CutPrefix Trym.lays210 s p w
def Trym.lays103_ren : Go.Shelf.Ren := ⟨fun | 103 => 23 | 210 => 28 | 206 => 26 | n => n, fun | 9 => 9 | 4 => 4 | 24 => 35 | 3 => 3 | n => n, fun | n => n⟩
theorem Trym.lays103 : Go.Proofs.Lays.n103 Trym.prog Trym.lays103_ren := {
  mixed := by kernel_rfl
  f103 := Trym.func23.trans (congrArg some (by kernel_rfl))
  f206 := Trym.func26.trans (congrArg some (by kernel_rfl))
  f210 := Trym.func28.trans (congrArg some (by kernel_rfl))
  t3 := Trym.underlying3
  a3 := Trym.isAgg3
  z3 := Trym.sizeOf3
  v3 := Trym.zeroValue3
  t4 := Trym.underlying4
  a4 := Trym.isAgg4
  z4 := Trym.sizeOf4
  v4 := Trym.zeroValue4
  t9 := Trym.underlying9
  a9 := Trym.isAgg9
  z9 := Trym.sizeOf9
  v9 := Trym.zeroValue9
  t24 := Trym.underlying35
  a24 := Trym.isAgg35
  z24 := Trym.sizeOf35
  v24 := Trym.zeroValue35 }
open Go.RowKit in
theorem Trym.strings_CutPrefix (s p : ByteArray) (w : World) :
    Calls Trym.prog 23 #[.string s, .string p] w fun e w' => e = .returned (.tuple #[.string ⟨(Lib.trimPrefix s.data.toList p.data.toList).toArray⟩, .bool (Lib.hasPrefix s.data.toList p.data.toList)]) ∧ w' = w := Any.strings_CutPrefix Trym.lays103 s p w
def Trym.lays217_ren : Go.Shelf.Ren := ⟨fun | 217 => 27 | 266 => 30 | n => n, fun | 9 => 9 | 5 => 5 | 3 => 3 | n => n, fun | n => n⟩
theorem Trym.lays217 : Go.Proofs.Lays.n217 Trym.prog Trym.lays217_ren := {
  mixed := by kernel_rfl
  f217 := Trym.func27.trans (congrArg some (by kernel_rfl))
  f266 := Trym.func30.trans (congrArg some (by kernel_rfl))
  t3 := Trym.underlying3
  a3 := Trym.isAgg3
  z3 := Trym.sizeOf3
  v3 := Trym.zeroValue3
  t5 := Trym.underlying5
  a5 := Trym.isAgg5
  z5 := Trym.sizeOf5
  v5 := Trym.zeroValue5
  t9 := Trym.underlying9
  a9 := Trym.isAgg9
  z9 := Trym.sizeOf9
  v9 := Trym.zeroValue9 }
open Go.RowKit Go.Lib in
theorem Trym.stringslite_IndexByte (s : ByteArray) (c : Int) (w : World) :
    Calls Trym.prog 27 #[.string s, .int .u8 c] w fun e w' => e = .returned (.int .i64 (Lib.indexByte s.data.toList c.toNat.toUInt8)) ∧ w' = w := Any.stringslite_IndexByte Trym.lays217 s c w
def Trym.lays206_ren : Go.Shelf.Ren := ⟨fun | 206 => 26 | n => n, fun | 9 => 9 | 4 => 4 | 3 => 3 | n => n, fun | n => n⟩
theorem Trym.lays206 : Go.Proofs.Lays.n206 Trym.prog Trym.lays206_ren := {
  mixed := by kernel_rfl
  f206 := Trym.func26.trans (congrArg some (by kernel_rfl))
  t3 := Trym.underlying3
  a3 := Trym.isAgg3
  z3 := Trym.sizeOf3
  v3 := Trym.zeroValue3
  t4 := Trym.underlying4
  a4 := Trym.isAgg4
  z4 := Trym.sizeOf4
  v4 := Trym.zeroValue4
  t9 := Trym.underlying9
  a9 := Trym.isAgg9
  z9 := Trym.sizeOf9
  v9 := Trym.zeroValue9 }
open Go.RowKit Go.Lib in
theorem Trym.stringslite_HasPrefix (s p : ByteArray) (w : World) :
    Calls Trym.prog 26 #[.string s, .string p] w fun e w' => e = .returned (.bool (Lib.hasPrefix s.data.toList p.data.toList)) ∧ w' = w := Any.stringslite_HasPrefix Trym.lays206 s p w
def Trym.lays99_ren : Go.Shelf.Ren := ⟨fun | 99 => 20 | 206 => 26 | n => n, fun | 9 => 9 | 4 => 4 | 3 => 3 | n => n, fun | n => n⟩
theorem Trym.lays99 : Go.Proofs.Lays.n99 Trym.prog Trym.lays99_ren := {
  mixed := by kernel_rfl
  f99 := Trym.func20.trans (congrArg some (by kernel_rfl))
  f206 := Trym.func26.trans (congrArg some (by kernel_rfl))
  t3 := Trym.underlying3
  a3 := Trym.isAgg3
  z3 := Trym.sizeOf3
  v3 := Trym.zeroValue3
  t4 := Trym.underlying4
  a4 := Trym.isAgg4
  z4 := Trym.sizeOf4
  v4 := Trym.zeroValue4
  t9 := Trym.underlying9
  a9 := Trym.isAgg9
  z9 := Trym.sizeOf9
  v9 := Trym.zeroValue9 }
open Go.RowKit Go.Lib in
theorem Trym.strings_HasPrefix (s p : ByteArray) (w : World) :
    Calls Trym.prog 20 #[.string s, .string p] w fun e w' => e = .returned (.bool (Lib.hasPrefix s.data.toList p.data.toList)) ∧ w' = w := Any.strings_HasPrefix Trym.lays99 s p w
def Trym.lays208_ren : Go.Shelf.Ren := ⟨fun | 208 => 29 | 206 => 26 | n => n, fun | 9 => 9 | 4 => 4 | 3 => 3 | n => n, fun | n => n⟩
theorem Trym.lays208 : Go.Proofs.Lays.n208 Trym.prog Trym.lays208_ren := {
  mixed := by kernel_rfl
  f206 := Trym.func26.trans (congrArg some (by kernel_rfl))
  f208 := Trym.func29.trans (congrArg some (by kernel_rfl))
  t3 := Trym.underlying3
  a3 := Trym.isAgg3
  z3 := Trym.sizeOf3
  v3 := Trym.zeroValue3
  t4 := Trym.underlying4
  a4 := Trym.isAgg4
  z4 := Trym.sizeOf4
  v4 := Trym.zeroValue4
  t9 := Trym.underlying9
  a9 := Trym.isAgg9
  z9 := Trym.sizeOf9
  v9 := Trym.zeroValue9 }
open Go.RowKit Go.Lib in
theorem Trym.stringslite_TrimPrefix (s p : ByteArray) (w : World) :
    Calls Trym.prog 29 #[.string s, .string p] w fun e w' => e = .returned (.string ⟨(Lib.trimPrefix s.data.toList p.data.toList).toArray⟩) ∧ w' = w := Any.stringslite_TrimPrefix Trym.lays208 s p w
def Trym.lays101_ren : Go.Shelf.Ren := ⟨fun | 101 => 24 | 208 => 29 | 206 => 26 | n => n, fun | 9 => 9 | 4 => 4 | 3 => 3 | n => n, fun | n => n⟩
theorem Trym.lays101 : Go.Proofs.Lays.n101 Trym.prog Trym.lays101_ren := {
  mixed := by kernel_rfl
  f101 := Trym.func24.trans (congrArg some (by kernel_rfl))
  f206 := Trym.func26.trans (congrArg some (by kernel_rfl))
  f208 := Trym.func29.trans (congrArg some (by kernel_rfl))
  t3 := Trym.underlying3
  a3 := Trym.isAgg3
  z3 := Trym.sizeOf3
  v3 := Trym.zeroValue3
  t4 := Trym.underlying4
  a4 := Trym.isAgg4
  z4 := Trym.sizeOf4
  v4 := Trym.zeroValue4
  t9 := Trym.underlying9
  a9 := Trym.isAgg9
  z9 := Trym.sizeOf9
  v9 := Trym.zeroValue9 }
open Go.RowKit Go.Lib in
theorem Trym.strings_TrimPrefix (s p : ByteArray) (w : World) :
    Calls Trym.prog 24 #[.string s, .string p] w fun e w' => e = .returned (.string ⟨(Lib.trimPrefix s.data.toList p.data.toList).toArray⟩) ∧ w' = w := Any.strings_TrimPrefix Trym.lays101 s p w
end Go.Proofs
