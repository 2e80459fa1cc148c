/-
  SEAT b6001580a. What the shelf's tool lays at this dump for strings.IndexAny (plain mode), cut down to the road for long strings.
-/
import Derived.Shelf.Strings.IndexAnyAll
import Derived.Test.Qxb6001580aProg
namespace Go.Proofs
open Go.Shelf
def Try.lays153_ren : Go.Shelf.Ren := ⟨fun | 153 => 14 | 152 => 18 | 226 => 19 | 227 => 20 | 228 => 21 | 137 => 23 | 119 => 24 | 224 => 25 | 225 => 26 | 217 => 27 | 266 => 28 | n => n, fun | 9 => 9 | 3 => 3 | 4 => 4 | 5 => 5 | 21 => 21 | 117 => 33 | 116 => 32 | 0 => 0 | 46 => 37 | 124 => 38 | n => n, fun | n => n⟩
theorem Try.lays153 : Go.Proofs.Lays.n153 Try.prog Try.lays153_ren := {
  mixed := by kernel_rfl
  f119 := Try.func24.trans (congrArg some (by kernel_rfl))
  f137 := Try.func23.trans (congrArg some (by kernel_rfl))
  f152 := Try.func18.trans (congrArg some (by kernel_rfl))
  f153 := Try.func14.trans (congrArg some (by kernel_rfl))
  f217 := Try.func27.trans (congrArg some (by kernel_rfl))
  f224 := Try.func25.trans (congrArg some (by kernel_rfl))
  f225 := Try.func26.trans (congrArg some (by kernel_rfl))
  f226 := Try.func19.trans (congrArg some (by kernel_rfl))
  f227 := Try.func20.trans (congrArg some (by kernel_rfl))
  f228 := Try.func21.trans (congrArg some (by kernel_rfl))
  f266 := Try.func28.trans (congrArg some (by kernel_rfl))
  t0 := Try.underlying0
  a0 := Try.isAgg0
  z0 := Try.sizeOf0
  v0 := Try.zeroValue0
  t3 := Try.underlying3
  a3 := Try.isAgg3
  z3 := Try.sizeOf3
  v3 := Try.zeroValue3
  t4 := Try.underlying4
  a4 := Try.isAgg4
  z4 := Try.sizeOf4
  v4 := Try.zeroValue4
  t5 := Try.underlying5
  a5 := Try.isAgg5
  z5 := Try.sizeOf5
  v5 := Try.zeroValue5
  t9 := Try.underlying9
  a9 := Try.isAgg9
  z9 := Try.sizeOf9
  v9 := Try.zeroValue9
  t21 := Try.underlying21
  a21 := Try.isAgg21
  z21 := Try.sizeOf21
  v21 := Try.zeroValue21
  t46 := Try.underlying37
  a46 := Try.isAgg37
  z46 := Try.sizeOf37
  v46 := Try.zeroValue37
  t116 := Try.underlying32
  a116 := Try.isAgg32
  z116 := Try.sizeOf32
  t117 := Try.underlying33
  a117 := Try.isAgg33
  z117 := Try.sizeOf33
  v117 := Try.zeroValue33
  t124 := Try.underlying38
  a124 := Try.isAgg38
  z124 := Try.sizeOf38
  v124 := Try.zeroValue38 }
open Go.RowKit Go.Lib in
theorem Try.strings_IndexAny_long (hv116 : ∀ w, (zeroValue 32).run Try.prog w = .ok (.agg (Array.replicate 256 (.bool false))) w) (s chars : ByteArray) (w : World) (h2 : 2 ≤ chars.size) (h8 : 8 < s.size) (hs : s.size < 4294967281) (hcs : chars.size < 4294967281) (hascii : ∀ (j : Nat) b, chars.data.toList[j]? = some b → b.toNat < 128) :
    Calls Try.prog 14 #[.string s, .string chars] w fun e w' => e = .returned (.int .i64 (Lib.indexAny s.data.toList chars.data.toList)) ∧ w' = ((w.alloc (.cells (Lib.setCells chars.data.toList) 32)).alloc (.cells (Lib.setCells chars.data.toList) 32)) := Any.strings_IndexAny_long Try.lays153 hv116 (by kernel_rfl) s chars w h2 h8 hs hcs hascii
end Go.Proofs
