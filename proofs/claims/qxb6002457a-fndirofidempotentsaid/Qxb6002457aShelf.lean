/-
  SEAT b6002457a. What the shelf's tool lays at this dump for path/filepath.Split (plain mode).
-/
import Derived.Shelf.Path.FileSmall
import Derived.Test.Qxb6002457aProg
namespace Go.Proofs
open Go.Shelf
def Try.laysPa36_ren : Go.Shelf.Ren := ⟨fun | 36 => 23 | 53 => 25 | 57 => 29 | 56 => 30 | 59 => 34 | 60 => 33 | 66 => 37 | 70 => 38 | 73 => 39 | n => n, fun | 9 => 9 | 24 => 34 | 3 => 3 | 4 => 4 | 5 => 5 | 30 => 38 | 0 => 0 | n => n, fun | n => n⟩
theorem Try.laysPa36 : Go.Proofs.Lays.p36 Try.prog Try.laysPa36_ren := {
  mixed := by kernel_rfl
  f36 := Try.func23.trans (congrArg some (by kernel_rfl))
  f53 := Try.func25.trans (congrArg some (by kernel_rfl))
  f56 := Try.func30.trans (congrArg some (by kernel_rfl))
  f57 := Try.func29.trans (congrArg some (by kernel_rfl))
  f59 := Try.func34.trans (congrArg some (by kernel_rfl))
  f60 := Try.func33.trans (congrArg some (by kernel_rfl))
  f66 := Try.func37.trans (congrArg some (by kernel_rfl))
  f70 := Try.func38.trans (congrArg some (by kernel_rfl))
  f73 := Try.func39.trans (congrArg some (by kernel_rfl))
  t0 := Try.underlying0
  a0 := Try.isAgg0
  z0 := Try.sizeOf0
  v0 := Try.zeroValue0
  t3 := Try.underlying3
  a3 := Try.isAgg3
  z3 := Try.sizeOf3
  v3 := Try.zeroValue3
  t4 := Try.underlying4
  a4 := Try.isAgg4
  z4 := Try.sizeOf4
  v4 := Try.zeroValue4
  t5 := Try.underlying5
  a5 := Try.isAgg5
  z5 := Try.sizeOf5
  v5 := Try.zeroValue5
  t9 := Try.underlying9
  a9 := Try.isAgg9
  z9 := Try.sizeOf9
  v9 := Try.zeroValue9
  t24 := Try.underlying34
  a24 := Try.isAgg34
  z24 := Try.sizeOf34
  v24 := Try.zeroValue34
  t30 := Try.underlying38
  a30 := Try.isAgg38
  z30 := Try.sizeOf38
  v30 := Try.zeroValue38 }
open Go.RowKit Go.Lib in
theorem Try.filepath_Split (s : ByteArray) (w : World) (hs : s.size ≤ 9223372036854775807) :
    Calls Try.prog 23 #[.string s] w fun e w' => e = .returned (.tuple #[.string ⟨(Pa.split s.data.toList).1.toArray⟩, .string ⟨(Pa.split s.data.toList).2.toArray⟩]) ∧ ∃ n, w' = w.drewN n := Any.filepath_Split Try.laysPa36 s w hs
end Go.Proofs
