/-
  SEAT b6003347a. What the shelf's tool lays at this dump (plain mode), cut down to strings.Join, IndexByte, Index, HasPrefix.
-/
import Derived.Shelf.Strings.OnBuilder
import Derived.Shelf.Strings.Search1
import Derived.Shelf.Strings.Prefix
import Derived.Shelf.Small.Strs
import Derived.Shelf.LaysM
import Derived.Shelf.Strings.Builder1
import Derived.Shelf.Strings.Builder2
import Derived.Shelf.Strings.Search2
import Derived.Shelf.Strings.Search3
import Derived.Shelf.Strings.Shaped
import Derived.Test.Qxb6003347aProg
namespace Go.Proofs
open Go.Shelf
def Try.lays156_ren : Go.Shelf.Ren := ⟨fun | 156 => 42 | 165 => 52 | 166 => 53 | 169 => 54 | 240 => 57 | 241 => 58 | 276 => 62 | 277 => 63 | n => n, fun | 31 => 36 | 9 => 9 | 3 => 3 | 4 => 4 | 0 => 0 | 20 => 20 | 72 => 68 | 76 => 72 | 70 => 66 | 37 => 52 | 75 => 71 | 127 => 75 | 164 => 77 | 5 => 5 | 80 => 74 | n => n, fun | n => n⟩
theorem Try.lays156 : Go.Proofs.Lays.n156 Try.prog Try.lays156_ren := {
  mixed := by kernel_rfl
  f156 := Try.func42.trans (congrArg some (by kernel_rfl))
  f165 := Try.func52.trans (congrArg some (by kernel_rfl))
  f166 := Try.func53.trans (congrArg some (by kernel_rfl))
  f169 := Try.func54.trans (congrArg some (by kernel_rfl))
  f240 := Try.func57.trans (congrArg some (by kernel_rfl))
  f241 := Try.func58.trans (congrArg some (by kernel_rfl))
  f276 := Try.func62.trans (congrArg some (by kernel_rfl))
  f277 := Try.func63.trans (congrArg some (by kernel_rfl))
  t0 := Try.underlying0
  a0 := Try.isAgg0
  z0 := Try.sizeOf0
  v0 := Try.zeroValue0
  t3 := Try.underlying3
  a3 := Try.isAgg3
  z3 := Try.sizeOf3
  v3 := Try.zeroValue3
  t4 := Try.underlying4
  a4 := Try.isAgg4
  z4 := Try.sizeOf4
  v4 := Try.zeroValue4
  t9 := Try.underlying9
  a9 := Try.isAgg9
  z9 := Try.sizeOf9
  v9 := Try.zeroValue9
  t20 := Try.underlying20
  a20 := Try.isAgg20
  z20 := Try.sizeOf20
  v20 := Try.zeroValue20
  t31 := Try.underlying36
  a31 := Try.isAgg36
  z31 := Try.sizeOf36
  v31 := Try.zeroValue36
  t37 := Try.underlying52
  a37 := Try.isAgg52
  z37 := Try.sizeOf52
  v37 := Try.zeroValue52
  t70 := Try.underlying66
  a70 := Try.isAgg66
  z70 := Try.sizeOf66
  v70 := Try.zeroValue66
  t72 := Try.underlying68
  a72 := Try.isAgg68
  z72 := Try.sizeOf68
  v72 := Try.zeroValue68
  t75 := Try.underlying71
  a75 := Try.isAgg71
  z75 := Try.sizeOf71
  v75 := Try.zeroValue71
  t76 := Try.underlying72
  a76 := Try.isAgg72
  z76 := Try.sizeOf72
  v76 := Try.zeroValue72
  t127 := Try.underlying75
  a127 := Try.isAgg75
  z127 := Try.sizeOf75
  v127 := Try.zeroValue75
  t164 := Try.underlying77
  a164 := Try.isAgg77
  z164 := Try.sizeOf77
  v164 := Try.zeroValue77 }
theorem Try.Builder_Extra_156 : Builder.Extra Try.prog Try.lays156_ren := {
  sizeBuilder := by kernel_rfl
  liesBuilder := by kernel_rfl
  t5 := Try.underlying5
  a5 := Try.isAgg5
  z5 := Try.sizeOf5
  v5 := Try.zeroValue5
  infoByte := by kernel_rfl
  cellsByte := by kernel_rfl
  sizeByte := by kernel_rfl
  neB5 := by decide }
open Go.RowKit in
theorem Try.strings_Join_none (a : Option Addr) (c : Nat) (sep : ByteArray) (w : World) :
    Calls Try.prog 42 #[.slice a 0 c, .string sep] w fun e w' => e = .returned (.string ⟨#[]⟩) ∧ w' = w := Any.strings_Join_none Try.lays156 Try.Builder_Extra_156 a c sep w
open Go.RowKit in
theorem Try.strings_Join (bk o c : Nat) (xs : List ByteArray) (sep : ByteArray) (w : World) (hcells : ∀ (j : Nat) x, xs[j]? = some x → w.cell? ⟨bk, o + j, none⟩ = some (.string x)) (hbk : bk < w.heap.size) (hN : xs.length ≤ 140737488355328) (hcap : xs.length ≤ c) (hlen : (Lib.join (xs.map (·.data.toList)) sep.data.toList).length ≤ 140737488355328) :
    Calls Try.prog 42 #[.slice (some ⟨bk, o, none⟩) xs.length c, .string sep] w fun e w' => e = .returned (.string ⟨(Lib.join (xs.map (·.data.toList)) sep.data.toList).toArray⟩) ∧ Below w.heap.size w w' := Any.strings_Join Try.lays156 Try.Builder_Extra_156 bk o c xs sep w hcells hbk hN hcap hlen
def Try.lays137_ren : Go.Shelf.Ren := ⟨fun | 137 => 39 | 217 => 50 | 266 => 56 | n => n, fun | 9 => 9 | 5 => 5 | 3 => 3 | n => n, fun | n => n⟩
theorem Try.lays137 : Go.Proofs.Lays.n137 Try.prog Try.lays137_ren := {
  mixed := by kernel_rfl
  f137 := Try.func39.trans (congrArg some (by kernel_rfl))
  f217 := Try.func50.trans (congrArg some (by kernel_rfl))
  f266 := Try.func56.trans (congrArg some (by kernel_rfl))
  t3 := Try.underlying3
  a3 := Try.isAgg3
  z3 := Try.sizeOf3
  v3 := Try.zeroValue3
  t5 := Try.underlying5
  a5 := Try.isAgg5
  z5 := Try.sizeOf5
  v5 := Try.zeroValue5
  t9 := Try.underlying9
  a9 := Try.isAgg9
  z9 := Try.sizeOf9
  v9 := Try.zeroValue9 }
open Go.RowKit in
theorem Try.strings_IndexByte (s : ByteArray) (c : Int) (w : World) :
    Calls Try.prog 39 #[.string s, .int .u8 c] w fun e w' => e = .returned (.int .i64 (Lib.indexByte s.data.toList c.toNat.toUInt8)) ∧ w' = w := Any.strings_IndexByte Try.lays137 s c w
def Try.laysM143_ren : Go.Shelf.Ren := ⟨fun | 143 => 49 | 219 => 55 | 217 => 50 | 225 => 59 | 224 => 60 | 267 => 61 | 266 => 56 | 314 => 64 | n => n, fun | 9 => 9 | 3 => 3 | 4 => 4 | 5 => 5 | 46 => 63 | 146 => 81 | 51 => 80 | n => n, fun | 1 => 0 | n => n⟩
theorem Try.laysM143 : Go.Proofs.LaysM.n143 Try.prog Try.laysM143_ren := {
  mixed := by kernel_rfl
  f143 := Try.func49.trans (congrArg some (by kernel_rfl))
  f217 := Try.func50.trans (congrArg some (by kernel_rfl))
  f219 := Try.func55.trans (congrArg some (by kernel_rfl))
  f224 := Try.func60.trans (congrArg some (by kernel_rfl))
  f225 := Try.func59.trans (congrArg some (by kernel_rfl))
  f266 := Try.func56.trans (congrArg some (by kernel_rfl))
  f267 := Try.func61.trans (congrArg some (by kernel_rfl))
  f314 := Try.func64.trans (congrArg some (by kernel_rfl))
  t3 := Try.underlying3
  a3 := Try.isAgg3
  z3 := Try.sizeOf3
  v3 := Try.zeroValue3
  t4 := Try.underlying4
  a4 := Try.isAgg4
  z4 := Try.sizeOf4
  v4 := Try.zeroValue4
  t5 := Try.underlying5
  a5 := Try.isAgg5
  z5 := Try.sizeOf5
  v5 := Try.zeroValue5
  t9 := Try.underlying9
  a9 := Try.isAgg9
  z9 := Try.sizeOf9
  v9 := Try.zeroValue9
  t46 := Try.underlying63
  a46 := Try.isAgg63
  z46 := Try.sizeOf63
  v46 := Try.zeroValue63
  t51 := Try.underlying80
  a51 := Try.isAgg80
  z51 := Try.sizeOf80
  v51 := Try.zeroValue80
  t146 := Try.underlying81
  a146 := Try.isAgg81
  z146 := Try.sizeOf81
  v146 := Try.zeroValue81
  g1 := by kernel_rfl
  i3 := by kernel_rfl
  i4 := by kernel_rfl
  i5 := by kernel_rfl
  i9 := by kernel_rfl
  i46 := by kernel_rfl
  i51 := by kernel_rfl
  i146 := by kernel_rfl
  m1 := by kernel_rfl
  s1_3 := fun w h => Go.Proofs.cell_of_shapedOpen_int (zero := #[.int .i64 0]) (t := 3) h (of_decide_eq_true (by kernel_rfl)) (by kernel_rfl) rfl (by kernel_rfl) (by kernel_rfl) Try.underlying3 }
def Try.lays99_ren : Go.Shelf.Ren := ⟨fun | 99 => 41 | 206 => 51 | n => n, fun | 9 => 9 | 4 => 4 | 3 => 3 | n => n, fun | n => n⟩
theorem Try.lays99 : Go.Proofs.Lays.n99 Try.prog Try.lays99_ren := {
  mixed := by kernel_rfl
  f99 := Try.func41.trans (congrArg some (by kernel_rfl))
  f206 := Try.func51.trans (congrArg some (by kernel_rfl))
  t3 := Try.underlying3
  a3 := Try.isAgg3
  z3 := Try.sizeOf3
  v3 := Try.zeroValue3
  t4 := Try.underlying4
  a4 := Try.isAgg4
  z4 := Try.sizeOf4
  v4 := Try.zeroValue4
  t9 := Try.underlying9
  a9 := Try.isAgg9
  z9 := Try.sizeOf9
  v9 := Try.zeroValue9 }
open Go.RowKit Go.Lib in
theorem Try.strings_HasPrefix (s p : ByteArray) (w : World) :
    Calls Try.prog 41 #[.string s, .string p] w fun e w' => e = .returned (.bool (Lib.hasPrefix s.data.toList p.data.toList)) ∧ w' = w := Any.strings_HasPrefix Try.lays99 s p w
open Go.RowKit Go.Lib in
theorem Try.strings_Index (s sub : ByteArray) (m : Int) (w : World) (hs : s.size < 4294967281) (hm : w.cell? ⟨0, 0, none⟩ = some (.int .i64 m)) :
    Calls Try.prog 49 #[.string s, .string sub] w fun e w' => e = .returned (.int .i64 (Lib.index s.data.toList sub.data.toList)) ∧ w' = w := Any.strings_Index { Try.laysM143 with } s sub m w hs hm
theorem Try.maxLen_cell (w : World) (h : w.ShapedOpen Try.prog) : ∃ m, w.cell? ⟨0, 0, none⟩ = some (.int .i64 m) := Try.laysM143.s1_3 w h
end Go.Proofs
