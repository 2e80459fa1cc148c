/-
  SEAT b6003347a. How withStampMember is left: the marks of its loops are taken, the results read.
-/
import Derived.Test.Qxb6003347aKept2
namespace Go.Proofs.Qxb6003347a
open Go.RowKit Go.Shelf

theorem results29 {tmps : Array Value} {w : World} {H : Nat} {b : Bool} (h5 : tmps.getD 5 undef = .pointer (some ⟨H, 0, none⟩)) (hc : w.cell? ⟨H, 0, none⟩ = some (.bool b)) :
    (results Try.f29 tmps).run Try.prog w = .ok (.tuple #[tmps.getD 4 undef, .bool b]) w := by
  simp only [results, show Try.f29.results = #[.tmp 4, .cell 5 4] from rfl]
  simp only [Array.getD_eq_getD_getElem?] at h5 ⊢
  simp [go_sem, hc, h5]

theorem leave_two {R : Ending → World → Prop} {tmps : Array Value} {X : World} {D2 D H n : Nat} {t : Value} {b : Bool} (h4 : tmps.getD 4 undef = t) (h5 : tmps.getD 5 undef = .pointer (some ⟨H, 0, none⟩))
    (hX2 : X.heap[D2]? = some (.deferred (some []))) (hX1 : X.heap[D]? = some (.deferred (some []))) (hne : D ≠ D2) (hc : X.cell? ⟨H, 0, none⟩ = some (.bool b))
    (hR : R (.returned (.tuple #[t, .bool b])) ((X.putObj D2 (.deferred none)).putObj D (.deferred none))) :
    bodyPostM Fence.wide n Try.prog Try.f29 R .ret { tmps := tmps, defers := [{ target := .collected D2, args := #[] }, { target := .collected D, args := #[] }] } X := by
  have hX1' : (X.putObj D2 (.deferred none)).heap[D]? = some (.deferred (some [])) :=
    ((grownBy_putObj' X D2 (.deferred none)).block D (Array.getElem?_eq_some_iff.1 hX1).1 (by simp; exact hne)).trans hX1
  have hc1 := cell_kept hc (grownBy_putObj' X D2 (.deferred none)) (fun r e => by cases e; exact ⟨_, hX2, rfl⟩)
  have hc2 := cell_kept hc1 (grownBy_putObj' _ D (.deferred none)) (fun r e => by cases e; exact ⟨_, hX1', rfl⟩)
  refine ⟨by simp, .inl ⟨_, _, rfl, run_takeDeferred hX2, ?_⟩⟩
  refine ⟨by simp, .inl ⟨_, _, rfl, run_takeDeferred hX1', ?_⟩⟩
  refine ⟨_, results29 h5 hc2, ?_⟩
  rw [h4]
  exact hR

theorem leave_one {R : Ending → World → Prop} {tmps : Array Value} {X : World} {D H n : Nat} {t : Value} {b : Bool} (h4 : tmps.getD 4 undef = t) (h5 : tmps.getD 5 undef = .pointer (some ⟨H, 0, none⟩))
    (hX1 : X.heap[D]? = some (.deferred (some []))) (hc : X.cell? ⟨H, 0, none⟩ = some (.bool b))
    (hR : R (.returned (.tuple #[t, .bool b])) (X.putObj D (.deferred none))) :
    bodyPostM Fence.wide n Try.prog Try.f29 R .ret { tmps := tmps, defers := [{ target := .collected D, args := #[] }] } X := by
  have hc2 := cell_kept hc (grownBy_putObj' _ D (.deferred none)) (fun r e => by cases e; exact ⟨_, hX1, rfl⟩)
  refine ⟨by simp, .inl ⟨_, _, rfl, run_takeDeferred hX1, ?_⟩⟩
  refine ⟨_, results29 h5 hc2, ?_⟩
  rw [h4]
  exact hR

/-- The end of the walk: the result is stored, both marks are taken. -/
theorem leave_far {w W w' : World} {H D D2 n : Nat} {rm : Bool} {t : Value} {tmps : Array Value} {P : Ending → Prop} (hH : w.heap.size = H) (hB : Below H w W) (hw : Below W.drew.heap.size W.drew w')
    (hrc : W.cell? ⟨H, 0, none⟩ = some (.bool rm)) (hd : W.heap[D]? = some (.deferred (some []))) (hd2 : W.heap[D2]? = some (.deferred (some []))) (hne : D < D2) (hHD : H ≤ D)
    (h4 : tmps.getD 4 undef = t) (h5 : tmps.getD 5 undef = .pointer (some ⟨H, 0, none⟩)) (hP : P (.returned (.tuple #[t, .bool rm]))) :
    bodyPostM Fence.wide n Try.prog Try.f29 (fun e W' => P e ∧ Below w.heap.size w W') .ret { tmps := tmps, defers := [{ target := .collected D2, args := #[] }, { target := .collected D, args := #[] }] } (w'.setCell ⟨H, 0, none⟩ (.bool rm)) := by
  have hHl : H < W.heap.size := World.block_lt_of_cell? W _ hrc
  have e1 : w'.heap[D]? = some (.deferred (some [])) := (hw.block D (Array.getElem?_eq_some_iff.1 hd).1).trans hd
  have e2 : w'.heap[D2]? = some (.deferred (some [])) := (hw.block D2 (Array.getElem?_eq_some_iff.1 hd2).1).trans hd2
  have f1 := (KeepsOthers.setCell w' ⟨H, 0, none⟩ (.bool rm)).same D _ e1 rfl
  have f2 := (KeepsOthers.setCell w' ⟨H, 0, none⟩ (.bool rm)).same D2 _ e2 rfl
  have hcw : w'.cell? ⟨H, 0, none⟩ = some (.bool rm) := (hw.cell (p := ⟨H, 0, none⟩) hHl).trans hrc
  refine leave_two h4 h5 f2 f1 (by omega) (World.cell?_setCell_same' _ _ _ (by rw [hcw]; rfl)) ⟨hP, ?_⟩
  rw [hH]
  have b1 : Below H w w' := hB.trans (((Below.refl H W).drew).trans (hw.mono (Nat.le_of_lt hHl)))
  have b2 := b1.setCell (p := ⟨H, 0, none⟩) (Nat.le_refl _) (.bool rm)
  have b3 := b2.trans (belowK_b (n₀ := H) (w := w) (by omega) _ D2 _ (.deferred none) (by omega) f2 rfl rfl)
  have f1' : ((w'.setCell ⟨H, 0, none⟩ (.bool rm)).putObj D2 (.deferred none)).heap[D]? = some (.deferred (some [])) :=
    ((grownBy_putObj' _ D2 (.deferred none)).block D (Array.getElem?_eq_some_iff.1 f1).1 (by simp; omega)).trans f1
  exact b3.trans (belowK_b (n₀ := H) (w := w) (by omega) _ D _ (.deferred none) (by omega) f1' rfl rfl)

end Go.Proofs.Qxb6003347a
