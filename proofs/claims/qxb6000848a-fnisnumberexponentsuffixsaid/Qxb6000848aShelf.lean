/-
  strings.CutPrefix's contract at this program (a plain laying).
-/
import Derived.Shelf.Small.Wraps
import Derived.Test.Qxb6000848aProg
namespace Go.Proofs
open Go.Shelf
def Try.lays103_ren : Go.Shelf.Ren := ⟨fun | 103 => 21 | 210 => 23 | 206 => 24 | n => n, fun | 9 => 9 | 4 => 4 | 24 => 35 | 3 => 3 | n => n, fun | n => n⟩
theorem Try.lays103 : Go.Proofs.Lays.n103 Try.prog Try.lays103_ren := {
  mixed := by kernel_rfl
  f103 := Try.func21.trans (congrArg some (by kernel_rfl))
  f206 := Try.func24.trans (congrArg some (by kernel_rfl))
  f210 := Try.func23.trans (congrArg some (by kernel_rfl))
  t3 := Try.underlying3
  a3 := Try.isAgg3
  z3 := Try.sizeOf3
  v3 := Try.zeroValue3
  t4 := Try.underlying4
  a4 := Try.isAgg4
  z4 := Try.sizeOf4
  v4 := Try.zeroValue4
  t9 := Try.underlying9
  a9 := Try.isAgg9
  z9 := Try.sizeOf9
  v9 := Try.zeroValue9
  t24 := Try.underlying35
  a24 := Try.isAgg35
  z24 := Try.sizeOf35
  v24 := Try.zeroValue35 }
open Go.RowKit in
theorem Try.strings_CutPrefix (s p : ByteArray) (w : World) :
    Calls Try.prog 21 #[.string s, .string p] w fun e w' => e = .returned (.tuple #[.string ⟨(Lib.trimPrefix s.data.toList p.data.toList).toArray⟩, .bool (Lib.hasPrefix s.data.toList p.data.toList)]) ∧ w' = w := Any.strings_CutPrefix Try.lays103 s p w
end Go.Proofs
