/-
  SEAT b6003347a. The slice over the local array: where it begins; what a push keeps.
-/
import Derived.Test.Qxb6003347aKept
namespace Go.Proofs.Qxb6003347a
open Go.RowKit Go.Shelf

theorem Kept.start (W : World) (arr : Array Value) (ks : List (List UInt8)) (hsz : arr.size = 32) (hl : ks.length ≤ 32) (hat : ∀ (j : Nat) (x : List UInt8), ks[j]? = some x → arr[j]? = some (Value.string (S x))) :
    Kept ((W.alloc (.cells arr 61)).alloc (.cells #[.slice (some ⟨W.heap.size, 0, none⟩) ks.length 32] 36)) W.heap.size (W.heap.size + 1) ks := by
  have hb := Boxed.new (W.alloc (.cells arr 61)) 36 (.slice (some ⟨W.heap.size, 0, none⟩) ks.length 32)
  rw [World.size_alloc] at hb
  have hc : ∀ j v, arr[j]? = some v → (W.alloc (.cells arr 61)).cell? ⟨W.heap.size, j, none⟩ = some v := fun j v h => (World.cell?_alloc_new W arr 61 j).trans h
  have hf : ∀ j, (W.alloc (.cells arr 61)).frozen? ⟨W.heap.size, j, none⟩ = false := fun j => by
    unfold World.frozen?
    rw [show (W.alloc (.cells arr 61)).heap[(⟨W.heap.size, j, none⟩ : Addr).block]? = _ from World.alloc_heap_new W _]
    simp
  refine ⟨hb.cell, hb.frozen, hl, fun j x hj => cell_alloc_l _ (hc j _ (hat j x hj)), fun j hj => ?_⟩
  have h1 : arr[j]? = some (arr[j]'(by omega)) := Array.getElem?_eq_getElem (by omega)
  exact ⟨by rw [cell_alloc_l _ (hc j _ h1)]; rfl, frozen_alloc_l _ (hc j _ h1) (hf j)⟩

/-- The world behind a push: its cell, the box, a block for the element. -/
def pushed (W : World) (Bk Bm k k1 : Nat) (x : List UInt8) : World :=
  ((W.setCell ⟨Bk, k, none⟩ (.string (S x))).setCell ⟨Bm, 0, none⟩ (.slice (some ⟨Bk, 0, none⟩) k1 32)).alloc (.cells #[.string (S x)] 9)

theorem pushed_keeps (W : World) (Bk Bm k k1 : Nat) (x : List UInt8) : KeepsOthers W (pushed W Bk Bm k k1 x) :=
  ((KeepsOthers.setCell _ _ _).trans (KeepsOthers.setCell _ _ _)).trans (KeepsOthers.alloc _ _)

theorem pushed_below {H : Nat} {W : World} {Bk Bm k k1 : Nat} (x : List UInt8) (h : H ≤ W.heap.size) (h1 : H ≤ Bk) (h2 : H ≤ Bm) : Below H W (pushed W Bk Bm k k1 x) :=
  (((Below.refl H W).setCell (p := ⟨Bk, k, none⟩) h1 _).setCell (p := ⟨Bm, 0, none⟩) h2 _).alloc (by simp; exact h) _

theorem pushed_cell {W : World} {Bk Bm k k1 q : Nat} {v : Value} (x : List UInt8) (h : W.cell? ⟨q, 0, none⟩ = some v) (h1 : q ≠ Bk) (h2 : q ≠ Bm) : (pushed W Bk Bm k k1 x).cell? ⟨q, 0, none⟩ = some v := by
  unfold pushed
  refine cell_alloc_l _ ?_
  rw [World.cell?_setCell_other _ _ _ _ (fun e => h2 (by cases e; rfl)), World.cell?_setCell_other _ _ _ _ (fun e => h1 (by cases e; rfl))]
  exact h

theorem pushed_frozen {W : World} {Bk Bm k k1 q : Nat} {v : Value} (x : List UInt8) (h : W.cell? ⟨q, 0, none⟩ = some v) (hf : W.frozen? ⟨q, 0, none⟩ = false) (h1 : q ≠ Bk) (h2 : q ≠ Bm) : (pushed W Bk Bm k k1 x).frozen? ⟨q, 0, none⟩ = false := by
  unfold pushed
  refine frozen_alloc_l (v := v) _ ?_ ?_
  · rw [World.cell?_setCell_other _ _ _ _ (fun e => h2 (by cases e; rfl)), World.cell?_setCell_other _ _ _ _ (fun e => h1 (by cases e; rfl))]
    exact h
  · rw [World.frozen?_setCell, World.frozen?_setCell]
    exact hf

theorem pushed_kept {W : World} {Bk Bm : Nat} {ks : List (List UInt8)} (h : Kept W Bk Bm ks) (hne : Bk ≠ Bm) (hl : ks.length < 32) {k1 : Nat} (hk1 : k1 = ks.length + 1) (x : List UInt8) : Kept (pushed W Bk Bm ks.length k1 x) Bk Bm (ks ++ [x]) := by
  subst hk1
  exact (h.push hne hl x).alloc _

/-- What the second loop holds between two rounds. -/
structure Loop2 (w : World) (H D Bk Bm : Nat) (rm : Bool) (ks : List (List UInt8)) (W : World) : Prop where
  kept : Kept W Bk Bm ks
  rmc : W.cell? ⟨H, 0, none⟩ = some (.bool rm)
  rmf : W.frozen? ⟨H, 0, none⟩ = false
  below : Below H w W
  defer : W.heap[D]? = some (.deferred (some []))

theorem Loop2.own {w : World} {H D Bk Bm B : Nat} {rm : Bool} (f : List (List UInt8) → List (List UInt8)) (hH : H ≤ w.heap.size) (hD : D < B) (hB : H ≤ B) : OwnFrom B (fun pre W => Loop2 w H D Bk Bm rm (f pre) W) := fun s X Y row hs hg hr =>
  ⟨Kept.own f s X Y row hs.kept hg (fun r e => (hr r e).2), cell_kept hs.rmc hg (fun r e => (hr r e).2), (frozen_kept hs.rmc hg (fun r e => (hr r e).2)).trans hs.rmf,
    ownFrom_below (β := Unit) hH hB () X Y row hs.below hg hr, by
      refine (hg.block D (Array.getElem?_eq_some_iff.1 hs.defer).1 (fun e => ?_)).trans hs.defer
      have := (hr D e.symm).1
      omega⟩

theorem Loop2.push {w W : World} {H D Bk Bm : Nat} {rm : Bool} {ks : List (List UInt8)} (h : Loop2 w H D Bk Bm rm ks W) (hne : Bk ≠ Bm) (hl : ks.length < 32) (h1 : H < Bk) (h2 : H < Bm) (hsz : H ≤ w.heap.size) {k1 : Nat} (hk1 : k1 = ks.length + 1) (x : List UInt8) : Loop2 w H D Bk Bm rm (ks ++ [x]) (pushed W Bk Bm ks.length k1 x) :=
  ⟨pushed_kept h.kept hne hl hk1 x, pushed_cell x h.rmc (by omega) (by omega), pushed_frozen x h.rmc h.rmf (by omega) (by omega), h.below.trans (pushed_below x (Nat.le_trans hsz h.below.size) (by omega) (by omega)), (pushed_keeps W Bk Bm ks.length k1 x).same D _ h.defer rfl⟩

end Go.Proofs.Qxb6003347a
