/-
  SEAT b6003347a. A SLICE OVER A LOCAL ARRAY OF 32 STRINGS: what it holds, and an append where there is room.
-/
import Derived.Deep.AppendSrc
import Derived.Test.Qxb6003347aIter
namespace Go.Proofs.Qxb6003347a
open Go.RowKit Go.Shelf

theorem run_push1 (w : World) (ty : TypeId) (g k cap : Nat) (ad : Addr) (c : Nat) (u : Value) (hu : u.oneCell' = true) (hc : w.cell? (ad.add 0) = some u) (hroom : k + 1 ≤ cap)
    (hs : (w.cell? ⟨g, k, none⟩).isSome = true) (hf : w.frozen? ⟨g, k, none⟩ = false) :
    (Builtin.append_ #[36, 36] ty #[.slice (some ⟨g, 0, none⟩) k cap, .slice (some ad) 1 c]).run Try.prog w = .ok (.slice (some ⟨g, 0, none⟩) (k + 1) cap) (w.setCell ⟨g, k, none⟩ u) := by
  obtain ⟨i, hi, hz0, hz1, hz2⟩ := info_parts Try.info9
  have := run_append_room_src (P := Try.prog) w 36 36 ty 9 i Try.underlying36 hi g 0 k cap (.slice (some ad) 1 c) 1 [u]
    (Src.ofSlice w Try.underlying36 ad 1 c [u] (by rw [hz1]; rfl) (fun j x hj => by
      cases j with
      | zero => cases hj; exact hc
      | succ j => simp at hj) (fun x hx => by simp at hx; rw [hx]; exact hu)) hroom
    (fun j hj => by
      obtain rfl : j = 0 := by simp at hj; exact hj
      rw [hz1, Nat.zero_add, Nat.mul_one, Nat.add_zero]; exact hs)
    (fun j hj => by
      obtain rfl : j = 0 := by simp at hj; exact hj
      rw [hz1, Nat.zero_add, Nat.mul_one, Nat.add_zero]; exact hf)
  rw [this, hz1, Nat.zero_add, Nat.mul_one]
  rfl

theorem wpListIn_push1 {F : Fence} {n : Nat} (w : World) {ops : Array Oper} {rest : List Oper} {o : Oper} {a : Act} {Q : Exit → Act → World → Prop}
    (hg : o.guard = none) (s x : Operand) (hop : o.op = Op.call { callee := Callee.builtin Builtin.append, args := #[s, x], argTypes := #[36, 36] })
    (g k cap : Nat) (hs : a.eval s = .slice (some ⟨g, 0, none⟩) k cap) (ad : Addr) (c : Nat) (hx : a.eval x = .slice (some ad) 1 c) (u : Value) (hu : u.oneCell' = true) (hc : w.cell? (ad.add 0) = some u) (hroom : k + 1 ≤ cap)
    (hsm : (w.cell? ⟨g, k, none⟩).isSome = true) (hf : w.frozen? ⟨g, k, none⟩ = false)
    (hK : wpListIn F n Try.prog ops Q rest (a.put o.dst (.slice (some ⟨g, 0, none⟩) (k + 1) cap)) (w.setCell ⟨g, k, none⟩ u)) :
    wpListIn F n Try.prog ops Q (o :: rest) a w := by
  refine wpListIn_plain hg fun K hK' => ?_
  have hrun := run_push1 w o.type g k cap ad c u hu hc hroom hsm hf
  unfold Oper.wpIn
  refine ⟨?_, ?_⟩
  · simp [Oper.about, hop, resolve, Target.leads, Sem.run_pure]
  · rw [Oper.semAt_plain F _ _ (by rw [hop]; intro c hc'; cases hc')]
    simp [execOp, hop, resolve, invoke, builtin, hs, hx, hrun, Result.andThen]
    exact hK' _ _ hK

theorem cell_alloc_l {W : World} {a : Addr} {v : Value} (o : Obj) (h : W.cell? a = some v) : (W.alloc o).cell? a = some v := cell_kept h (World.grownBy_alloc W o none) (fun r e => by cases e)
theorem frozen_alloc_l {W : World} {a : Addr} {v : Value} (o : Obj) (h : W.cell? a = some v) (hf : W.frozen? a = false) : (W.alloc o).frozen? a = false := (frozen_kept h (World.grownBy_alloc W o none) (fun r e => by cases e)).trans hf

/-- The box Bm holds a slice over the block Bk of 32 cells; it holds ks. -/
structure Kept (W : World) (Bk Bm : Nat) (ks : List (List UInt8)) : Prop where
  box : W.cell? ⟨Bm, 0, none⟩ = some (.slice (some ⟨Bk, 0, none⟩) ks.length 32)
  boxf : W.frozen? ⟨Bm, 0, none⟩ = false
  len : ks.length ≤ 32
  at_ : ∀ j x, ks[j]? = some x → W.cell? ⟨Bk, j, none⟩ = some (.string (S x))
  some_ : ∀ j, j < 32 → (W.cell? ⟨Bk, j, none⟩).isSome = true ∧ W.frozen? ⟨Bk, j, none⟩ = false

theorem Kept.own {Bk Bm : Nat} (f : List (List UInt8) → List (List UInt8)) : Own (fun pre W => Kept W Bk Bm (f pre)) := fun s A B row hs hg hr =>
  ⟨cell_kept hs.box hg hr, (frozen_kept hs.box hg hr).trans hs.boxf, hs.len, fun j x hj => cell_kept (hs.at_ j x hj) hg hr, fun j hj => by
    obtain ⟨h1, h2⟩ := hs.some_ j hj
    obtain ⟨v, hv⟩ := Option.isSome_iff_exists.1 h1
    exact ⟨by rw [cell_kept hv hg hr]; rfl, (frozen_kept hv hg hr).trans h2⟩⟩

theorem Kept.alloc {W : World} {Bk Bm : Nat} {ks : List (List UInt8)} (h : Kept W Bk Bm ks) (o : Obj) : Kept (W.alloc o) Bk Bm ks :=
  ⟨cell_alloc_l _ h.box, frozen_alloc_l _ h.box h.boxf, h.len, fun j x hj => cell_alloc_l _ (h.at_ j x hj), fun j hj => by
    obtain ⟨h1, h2⟩ := h.some_ j hj
    obtain ⟨v, hv⟩ := Option.isSome_iff_exists.1 h1
    exact ⟨by rw [cell_alloc_l _ hv]; rfl, frozen_alloc_l _ hv h2⟩⟩

theorem Kept.push {W : World} {Bk Bm : Nat} {ks : List (List UInt8)} (h : Kept W Bk Bm ks) (hne : Bk ≠ Bm) (hl : ks.length < 32) (x : List UInt8) :
    Kept ((W.setCell ⟨Bk, ks.length, none⟩ (.string (S x))).setCell ⟨Bm, 0, none⟩ (.slice (some ⟨Bk, 0, none⟩) (ks.length + 1) 32)) Bk Bm (ks ++ [x]) := by
  have e1 : ∀ j, (⟨Bm, 0, none⟩ : Addr) ≠ ⟨Bk, j, none⟩ := fun j e => hne (by cases e; rfl)
  have hk := h.some_ ks.length hl
  have hbox : ((W.setCell ⟨Bk, ks.length, none⟩ (.string (S x))).cell? ⟨Bm, 0, none⟩).isSome = true := by
    rw [World.cell?_setCell_other _ _ _ _ (fun e => e1 _ e.symm), h.box]
    rfl
  have hat : ∀ j, ((W.setCell ⟨Bk, ks.length, none⟩ (.string (S x))).setCell ⟨Bm, 0, none⟩ (.slice (some ⟨Bk, 0, none⟩) (ks.length + 1) 32)).cell? ⟨Bk, j, none⟩ = if j = ks.length then some (.string (S x)) else W.cell? ⟨Bk, j, none⟩ := by
    intro j
    rw [World.cell?_setCell_other _ _ _ _ (e1 j)]
    by_cases hj : j = ks.length
    · subst hj
      rw [if_pos rfl, World.cell?_setCell_same' _ _ _ hk.1]
    · rw [if_neg hj, World.cell?_setCell_other _ _ _ _ (fun e => hj (by cases e; rfl))]
  refine ⟨?_, ?_, ?_, fun j y hj => ?_, fun j hj => ⟨?_, ?_⟩⟩
  · rw [World.cell?_setCell_same' _ _ _ hbox, List.length_append]
    rfl
  · rw [World.frozen?_setCell, World.frozen?_setCell]; exact h.boxf
  · rw [List.length_append]; exact hl
  · rw [hat]
    by_cases hjl : j = ks.length
    · subst hjl
      simp at hj
      rw [if_pos rfl, hj]
    · rw [if_neg hjl]
      have hj2 := (List.getElem?_eq_some_iff.1 hj).1
      rw [List.length_append, List.length_singleton] at hj2
      rw [List.getElem?_append_left (by omega)] at hj
      exact h.at_ j y hj
  · rw [hat]
    split
    · rfl
    · exact (h.some_ j hj).1
  · rw [World.frozen?_setCell, World.frozen?_setCell]; exact (h.some_ j hj).2

end Go.Proofs.Qxb6003347a
