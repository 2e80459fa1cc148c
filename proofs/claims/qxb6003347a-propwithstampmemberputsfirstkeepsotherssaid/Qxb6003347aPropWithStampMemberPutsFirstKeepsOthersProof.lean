/-
  SEAT b6003347a. THE PROOF of Rows.PropWithStampMemberPutsFirstKeepsOthersSaid: the tool's frame for slices (the wrap that keeps the world's shape: the cell of internal/bytealg.MaxLen comes out of it), the walk out of Qxb6003347aLaw.
-/
import Derived.Test.Qxb6003347aRows
import Derived.Test.Qxb6003347aLaw
import Derived.HandedShaped
import Derived.SliceStrings
import Derived.WalkKit
import Derived.ProofKit
import Derived.OpenShut
import Derived.ShutString
import Derived.ChangeOld
import Derived.Below
namespace Go.Proofs.Qxb6003347a.propWithStampMemberPutsFirstKeepsOthers
open Go.ChangeShapes Go.WideShapes Go.ChangeAt Go.RowKit
open Go.ChangeMaps (open_string shut_string)
set_option linter.unusedVariables false

theorem own : ownKnob Try.prog.godebug = none := by kernel_rfl
theorem laidOut : laidOutB Try.prog = true := by kernel_rfl

/-- The slice of strings that came in, as the walk is told of it. -/
theorem strs_of {w : World} {a : Addr} {len cap : Nat} {ss : List ByteArray} (hl : len ≤ cap) (hz : ss.length = cap) (hc : ∀ i, i < ss.length → w.cell? (a.add i) = some (.string (ss.getD i ByteArray.empty))) :
    Strs w (some a) len (ss.take len) := by
  refine ⟨by rw [List.length_take]; omega, ?_⟩
  by_cases h0 : len = 0
  · exact .inl h0
  · have h1 := hc 0 (by omega)
    have h2 : a.add 0 = a := if_pos rfl
    rw [h2] at h1
    have hsp := World.cell?_spot h1
    obtain ⟨b, off, sp⟩ := a
    obtain rfl : sp = none := hsp
    refine .inr ⟨b, off, rfl, fun i hi => ?_⟩
    have h3 := hc i (by omega)
    rw [Addr.add_lit] at h3
    rw [h3]
    simp [List.getD, hi]

/-! ### THE ROW's STEP -/
set_option maxRecDepth 100000 in
theorem lifted (os : Os) (started : os.Started) (H : Type) (enc : TypeId × Value → H) :
    ReturnsInHanded {} Try.checked os 5 .any (Rows.propWithStampMemberPutsFirstKeepsOthersSpec.pre6 enc Try.prog Try.f5 Rows.propWithStampMemberPutsFirstKeepsOthersRow.domain false) (Rows.propWithStampMemberPutsFirstKeepsOthersSpec.post enc Try.prog Try.f5 false true false false) := by
  refine returnsInHanded_of_change_shaped (C := Try.checked) own started (by kernel_rfl) Try.func5
    (ChangeSpec.witness6 (enc := enc) (C := Try.checked) false ⟨#[], #[.slice none 0 0, .string ⟨#[]⟩], []⟩ 8 (by kernel_rfl) (by kernel_rfl) (by kernel_rfl) (by kernel_rfl)) ?_
  intro W base args ds gs before hval0 hW hcnd _ hsh _
  obtain ⟨mx, hmx⟩ := Try.maxLen_cell W hsh
  have hval : ∀ (j : Nat) t v, Try.f5.params[j]? = some t → args[j]? = some v → Value.okWide Try.prog W .any base t v := hval0
  have hW' := hW
  obtain ⟨p, q, hA0, hV, rfl, hfz, hnd⟩ := hW
  have hA : DataW.TrodAll enc Try.prog W 0 (fun _ => true) true Try.f5.params.toList args.toList ds p := hA0
  rw [Try.params5] at hA hval
  obtain ⟨v0, vs0, d0, ds0, p0, q0, hargs, rfl, rfl, h0, r0⟩ := trodAll_cons hA
  obtain ⟨v1, vs1, d1, ds1, p1, q1, rfl, rfl, rfl, h1, r1⟩ := trodAll_cons r0
  obtain ⟨rfl, rfl, rfl⟩ := trodAll_nil r1
  obtain rfl : args = #[v0, v1] := by cases args; simp_all
  obtain ⟨rfl, rfl⟩ := trodVars_none hV
  obtain ⟨a0, len0, cap0, rfl⟩ := okWide_slice Try.underlying36 (hval 0 36 v0 rfl rfl)
  have k0 := h0
  have lt0 : ∀ x ∈ p0, x.block < W.heap.size := by obtain ⟨m, hm⟩ := k0; exact DataW.trod_lt m _ _ _ hm
  obtain ⟨fs, hS, hl, hfs, hnil⟩ : ∃ fs, Strs W a0 len0 fs ∧ len0 ≤ maxLen ∧ (∀ f ∈ fs, f.size ≤ maxLen) ∧ (a0 = none → len0 = 0) := by
    obtain ⟨fuel, hf⟩ := h0
    rcases open_strings Try.underlying36 Try.underlying9 (by kernel_rfl) hf with ⟨hcs, _⟩ | ⟨x, l, c, ss, hcs, _, hl, hm, hz, _, hcell, hwz⟩
    · simp [Value.cells] at hcs
      obtain ⟨rfl, rfl, rfl⟩ := hcs
      exact ⟨[], ⟨rfl, .inl rfl⟩, Nat.zero_le _, fun f hf => by simp at hf, fun _ => rfl⟩
    · simp [Value.cells] at hcs
      obtain ⟨rfl, rfl, rfl⟩ := hcs
      exact ⟨_, strs_of hl (by simpa using hz) hcell, Nat.le_trans hl hm, fun f hf => hwz f (List.mem_of_mem_take hf), fun e => by cases e⟩
  obtain ⟨s1, rfl, rfl, rfl, z1⟩ := open_string Try.underlying9 (hval 1 9 v1 rfl rfl) h1
  clear hA0 hval0
  refine (law_walk a0 len0 cap0 fs s1 mx W hl z1 hfs hS hnil hmx).mono fun e W' ⟨he, bel⟩ => ?_
  subst he
  exact ⟨_, rfl, _, _, _, [], _, [], hW', trodAll_mk1 (shut_bool Try.underlying4 _), (trodAll_cons_mk (Below.trod laidOut (by kernel_rfl) (of_decide_eq_true (by kernel_rfl)) k0 bel lt0) (trodAll_cons_mk (shut_string Try.underlying9 z1) trodAll_mk0)), rfl, bel.frame _, fun h => by cases h⟩

theorem over : Rows.propWithStampMemberPutsFirstKeepsOthersRow.holds Try.pinned (OpenSpec.ofChange Rows.propWithStampMemberPutsFirstKeepsOthersSpec) :=
  OpenClaim.holds_of_wide 5 Try.f5 rfl rfl rfl rfl rfl rfl rfl ⟨rfl, rfl, rfl, rfl, rfl⟩ rfl rfl rfl rfl rfl (by kernel_rfl) Try.func5 (by kernel_rfl)
    (of_decide_eq_true (by kernel_rfl)) (by unfold Func.isWrapper; first | (rw [if_pos (by decide +kernel)]; kernel_rfl) | (rw [if_neg (by decide +kernel)]; exact ⟨rfl, rfl⟩))
    (fun os started H enc _ => lifted os started H enc)

/-- THE STATEMENT -/
theorem proved : Rows.PropWithStampMemberPutsFirstKeepsOthersSaid := over
#print axioms proved
end Go.Proofs.Qxb6003347a.propWithStampMemberPutsFirstKeepsOthers
