/-
  SEAT b6001714a. append onto a []byte of the call's own, said of lists of bytes; appendOpen, groupName, permPick.
-/
import Derived.Test.Qxb6001714aRows
import Derived.WalkKit
import Derived.WalkSpells
import Derived.WalkLawsBesides
import Derived.Lib.AppendStr
import Derived.Laws.AppendOwnNone
namespace Go.Proofs.Qxb6001714a
open Go.RowKit

theorem Try.info5 : (Try.prog.info? 5).map (fun i => (i.zero, i.size, i.bytes)) = some (some (.int .u8 0), 1, 1) := by kernel_rfl

/-- v is a slice of the call's own (in blocks from B on) that holds the bytes l. -/
def Mine (B : Nat) (w : World) (v : Value) (l : List Int) : Prop := w.ownsRow B 5 1 v l.length (l.map (Value.int .u8))

/-- The m bytes ys behind a slice's address, nil too. -/
def SrcAt (w : World) (p : Option Addr) (m c : Nat) (ys : List Int) : Prop :=
  ys.length = m ∧ ((p = none ∧ m = 0 ∧ c = 0) ∨ ∃ ad, p = some ad ∧ ∀ i, i < m → w.cell? (ad.add i) = some (.int .u8 (ys.getD i 0)))

theorem one_cells (ys : List Int) : ∀ u ∈ ys.map (Value.int .u8), u.oneCell' = true := by
  intro u hu
  obtain ⟨b, _, rfl⟩ := List.mem_map.1 hu
  rfl

theorem Mine.alloc {B : Nat} {w : World} {v : Value} {l : List Int} (h : Mine B w v l) (o : Obj) : Mine B (w.alloc o) v l := World.ownsRow.alloc h o

theorem below_of_grown {B : Nat} {w w' : World} {v : Value} {l : List Int} (h : Mine B w v l) (hB : B ≤ w.heap.size) (g : w.grownBy w' v.ownBlock) : Below B w w' :=
  (Below.refl B w).grown g hB fun k hk => (World.ownsRow.lt h k hk).1

/-- 'append(v, x...)', x a []byte. -/
theorem wp_app (w : World) {ops : Array Oper} {rest : List Oper} {o : Oper} {a : Act} {Q : Exit → Act → World → Prop} (hgd : o.guard = none) (s x : Operand)
    (ho : o.op = .call { callee := .builtin .append, args := #[s, x], argTypes := #[22, 22] })
    (B : Nat) (v : Value) (l : List Int) (hs : a.eval s = v) (hown : Mine B w v l) (p : Option Addr) (m c : Nat) (ys : List Int) (hx : a.eval x = .slice p m c) (hsrc : SrcAt w p m c ys)
    (hfit : l.length + m ≤ 16777216) (hB : B ≤ w.heap.size)
    (h : ∀ v' w', Mine B w' v' (l ++ ys) → Below B w w' → wpList Try.prog ops Q rest (a.put o.dst v') w') : wpList Try.prog ops Q (o :: rest) a w := by
  obtain ⟨i0, hi, hz0, hz1, hz2⟩ := info_parts Try.info5
  obtain ⟨hlen, hsrc⟩ := hsrc
  rcases hsrc with ⟨rfl, rfl, rfl⟩ | ⟨ad, rfl, hc⟩
  · obtain rfl : ys = [] := List.length_eq_zero_iff.1 hlen
    refine wpList_append_own_none hgd s x 22 ho B 5 i0 1 Try.underlying22 hi v _ _ hs hown hx ?_
    exact h v w (by rw [List.append_nil]; exact hown) (Below.refl _ _)
  · refine wpList_append_own w hgd s x 22 ho B 5 i0 (.int .u8 0) 1 1 Try.underlying22 hi hz0 hz1 hz2 rfl (by decide) v _ _ hs hown ad m c (ys.map (Value.int .u8)) hx (by rw [List.length_map, hlen, Nat.mul_one]) ?_ (one_cells ys) (by unfold maxLen; omega) (by omega) hB ?_
    · intro j u hu
      rw [List.getElem?_map] at hu
      have hj : j < ys.length := by
        rcases Nat.lt_or_ge j ys.length with h | h
        · exact h
        · rw [List.getElem?_eq_none h] at hu; simp at hu
      rw [List.getElem?_eq_getElem hj, Option.map_some] at hu
      rw [hc j (by omega), ← hu]
      simp [List.getD, hj]
    · intro v' w' h1 h2 _
      refine h v' w' ?_ (below_of_grown hown hB h2)
      unfold Mine
      rw [List.length_append, hlen, List.map_append]
      exact h1

/-- 'append(v, s...)', s a string. -/
theorem wp_app_str (w : World) {ops : Array Oper} {rest : List Oper} {o : Oper} {a : Act} {Q : Exit → Act → World → Prop} (hgd : o.guard = none) (sl x : Operand)
    (ho : o.op = .call { callee := .builtin .append, args := #[sl, x], argTypes := #[22, 9] })
    (B : Nat) (v : Value) (l : List Int) (hs : a.eval sl = v) (hown : Mine B w v l) (s : ByteArray) (hx : a.eval x = .string s)
    (hfit : l.length + s.size ≤ 16777216) (hB : B ≤ w.heap.size)
    (h : ∀ v' w', Mine B w' v' (l ++ s.data.toList.map fun b => (b.toNat : Int)) → Below B w w' → wpList Try.prog ops Q rest (a.put o.dst v') w') : wpList Try.prog ops Q (o :: rest) a w := by
  obtain ⟨i0, hi, hz0, hz1, hz2⟩ := info_parts Try.info5
  refine Lib.wpList_append_own_string w hgd sl x 22 9 ho B 5 i0 Try.underlying22 Try.underlying9 hi hz0 hz1 hz2 v _ _ hs hown s hx (by unfold maxLen; omega) (by omega) hB ?_
  intro v' w' h1 h2 _
  refine h v' w' ?_ (below_of_grown hown hB h2)
  unfold Mine
  have e : s.data.toList.length = s.size := Array.length_toList
  rw [List.length_append, List.length_map, e, List.map_append, List.map_map]
  exact h1

/-- What appendOpen lays. -/
def openL (nm : List Int) (p : Bool) : List Int := [40, 63] ++ (if p then [80] else []) ++ [60] ++ nm ++ [62]

theorem src_new (w : World) (ys : List Int) : SrcAt (w.alloc (.cells (ys.map (Value.int .u8)).toArray 5)) (some ⟨w.heap.size, 0, none⟩) ys.length ys.length ys :=
  ⟨rfl, .inr ⟨_, rfl, fun i hi => by
    rw [Addr.add_lit, Nat.zero_add, World.cell?_alloc_new]
    simp [List.getD, hi]⟩⟩

set_option maxHeartbeats 1000000 in
theorem open_false (B : Nat) (v : Value) (l : List Int) (nm : ByteArray) (w : World) (hv : Mine B w v l) (hB : B ≤ w.heap.size) (hl : l.length ≤ 8388608) (hn : nm.size ≤ 64) :
    Calls Try.prog 14 #[v, .string nm, .bool false] w fun e w' => ∃ v', e = .returned v' ∧ Mine B w' v' (l ++ openL (nm.data.toList.map fun b => (b.toNat : Int)) false) ∧ Below B w w' := by
  have hnl : nm.data.toList.length = nm.size := Array.length_toList
  go_enter Try.func14, Try.ntmps14
  go_wp2_with (at_builtin; refine wp_app _ rfl (.tmp 7) (.tmp 8) rfl B v _ rfl (hv.alloc _) (some ⟨w.heap.size, 0, none⟩) 2 2 [40, 63] rfl (src_new w [40, 63]) ?_ ?_ ?_)
  · simp; omega
  · simp; omega
  intro v1 w1 h1 b1
  have z1 : B ≤ w1.heap.size := by have := b1.size; simp at this; omega
  go_wp2_with (at_builtin; refine wp_app _ rfl (.tmp 14) (.tmp 15) rfl B v1 _ rfl (h1.alloc _) (some ⟨w1.heap.size, 0, none⟩) 1 1 [60] rfl (src_new w1 [60]) ?_ ?_ ?_)
  · simp; omega
  · simp; omega
  intro v2 w2 h2 b2
  have z2 : B ≤ w2.heap.size := by have := b2.size; simp at this; omega
  go_wp2_with (at_builtin; refine wp_app_str _ rfl (.tmp 17) (.tmp 18) rfl B v2 _ rfl h2 nm rfl ?_ ?_ ?_)
  · simp; omega
  · exact z2
  intro v3 w3 h3 b3
  have z3 : B ≤ w3.heap.size := by have := b3.size; omega
  go_wp2_with (at_builtin; refine wp_app _ rfl (.tmp 20) (.tmp 21) rfl B v3 _ rfl (h3.alloc _) (some ⟨w3.heap.size, 0, none⟩) 1 1 [62] rfl (src_new w3 [62]) ?_ ?_ ?_)
  · simp; omega
  · simp; omega
  intro v4 w4 h4 b4
  go_wp2
  go_ret
  refine ⟨v4, rfl, ?_, ?_⟩
  · have e : l ++ openL (nm.data.toList.map fun b => (b.toNat : Int)) false = (l ++ [40, 63] ++ [60] ++ nm.data.toList.map fun b => (b.toNat : Int)) ++ [62] := by simp [openL]
    rw [e]
    simpa using h4
  · have al : ∀ (W : World) (o : Obj), B ≤ W.heap.size → Below B W (W.alloc o) := fun W o h => (Below.refl _ _).alloc h _
    exact ((((al w _ hB).trans b1).trans ((al w1 _ z1).trans b2)).trans b3).trans ((al w3 _ z3).trans b4)

set_option maxHeartbeats 1000000 in
theorem open_true (B : Nat) (v : Value) (l : List Int) (nm : ByteArray) (w : World) (hv : Mine B w v l) (hB : B ≤ w.heap.size) (hl : l.length ≤ 8388608) (hn : nm.size ≤ 64) :
    Calls Try.prog 14 #[v, .string nm, .bool true] w fun e w' => ∃ v', e = .returned v' ∧ Mine B w' v' (l ++ openL (nm.data.toList.map fun b => (b.toNat : Int)) true) ∧ Below B w w' := by
  have hnl : nm.data.toList.length = nm.size := Array.length_toList
  go_enter Try.func14, Try.ntmps14
  go_wp2_with (at_builtin; refine wp_app _ rfl (.tmp 7) (.tmp 8) rfl B v _ rfl (hv.alloc _) (some ⟨w.heap.size, 0, none⟩) 2 2 [40, 63] rfl (src_new w [40, 63]) ?_ ?_ ?_)
  · simp; omega
  · simp; omega
  intro v1 w1 h1 b1
  have z1 : B ≤ w1.heap.size := by have := b1.size; simp at this; omega
  go_wp2_with (at_builtin; refine wp_app _ rfl (.tmp 11) (.tmp 12) rfl B v1 _ rfl (h1.alloc _) (some ⟨w1.heap.size, 0, none⟩) 1 1 [80] rfl (src_new w1 [80]) ?_ ?_ ?_)
  · simp; omega
  · simp; omega
  intro v2 w2 h2 b2
  have z2 : B ≤ w2.heap.size := by have := b2.size; simp at this; omega
  go_wp2_with (at_builtin; refine wp_app _ rfl (.tmp 14) (.tmp 15) rfl B v2 _ rfl (h2.alloc _) (some ⟨w2.heap.size, 0, none⟩) 1 1 [60] rfl (src_new w2 [60]) ?_ ?_ ?_)
  · simp; omega
  · simp; omega
  intro v3 w3 h3 b3
  have z3 : B ≤ w3.heap.size := by have := b3.size; simp at this; omega
  go_wp2_with (at_builtin; refine wp_app_str _ rfl (.tmp 17) (.tmp 18) rfl B v3 _ rfl h3 nm rfl ?_ ?_ ?_)
  · simp; omega
  · exact z3
  intro v4 w4 h4 b4
  have z4 : B ≤ w4.heap.size := by have := b4.size; omega
  go_wp2_with (at_builtin; refine wp_app _ rfl (.tmp 20) (.tmp 21) rfl B v4 _ rfl (h4.alloc _) (some ⟨w4.heap.size, 0, none⟩) 1 1 [62] rfl (src_new w4 [62]) ?_ ?_ ?_)
  · simp; omega
  · simp; omega
  intro v5 w5 h5 b5
  go_wp2
  go_ret
  refine ⟨v5, rfl, ?_, ?_⟩
  · have e : l ++ openL (nm.data.toList.map fun b => (b.toNat : Int)) true = (l ++ [40, 63] ++ [80] ++ [60] ++ nm.data.toList.map fun b => (b.toNat : Int)) ++ [62] := by simp [openL]
    rw [e]
    simpa using h5
  · have al : ∀ (W : World) (o : Obj), B ≤ W.heap.size → Below B W (W.alloc o) := fun W o h => (Below.refl _ _).alloc h _
    exact (((((al w _ hB).trans b1).trans ((al w1 _ z1).trans b2)).trans ((al w2 _ z2).trans b3)).trans b4).trans ((al w4 _ z4).trans b5)

theorem open_any (B : Nat) (v : Value) (l : List Int) (nm : ByteArray) (p : Bool) (w : World) (hv : Mine B w v l) (hB : B ≤ w.heap.size) (hl : l.length ≤ 8388608) (hn : nm.size ≤ 64) :
    Calls Try.prog 14 #[v, .string nm, .bool p] w fun e w' => ∃ v', e = .returned v' ∧ Mine B w' v' (l ++ openL (nm.data.toList.map fun b => (b.toNat : Int)) p) ∧ Below B w w' := by
  cases p
  · exact open_false B v l nm w hv hB hl hn
  · exact open_true B v l nm w hv hB hl hn

end Go.Proofs.Qxb6001714a
