/-
  No cell of these rows narrows 'for every input' (looked for: loops, veiled, ifaces, maps, wideKeys, modest, calm, conditions, laid).
  DERIVED. THE GIVEN ROWS OF THIS SEAT. 7 by the template 'for every input the law returns true; each argument reads behind the call as it read before'; 0 by the template 'total and deterministic' (their statements: Qxb6001714aTotals.lean).
  GIVEN WITH THE SEED: the statements are not yours to turn. If you find one false, say at which input.
  Laid BY PROGRAM, IN A SANDBOX (cutbox-rows.mjs): the forced cells as the released guide's own fill.sh prints them over the translation fbb048d0a3b4e00e… (all of the seat's roots in one cut). By AI agents, Wed Nov 11 2026. No macro, syntax, notation, axiom, sorry.
-/
import Derived.Test.Qxb6001714aChecked
import GoSem.Claim
import GoSem.ClaimJoined
import GoSem.ClaimMapViews
import Derived.JoinedTies
import Derived.KernelRfl
namespace Go.Proofs.Qxb6001714a
/- THE CELL 'sum', in the pinned program and in every row, IS THE sha256 OF THE DUMP (.gsa) THAT Qxb6001714aProg.lean LOADS. Nothing in Lean hashes anything: it is a label: what it is worth is what the hold of that sum in a sandbox is worth. -/
noncomputable def Try.pinned : Pinned := { name := "qxb6001714a", sum := "fbb048d0a3b4e00ea6920117be487fa9af99a9315227c664ede67ad9d4577818", checked := Try.checked }
namespace Rows
def none {H : Type} : Left H := { results := [], args := [] }

/-- 'zzlaws_root_b1.FnNamesEventGroupsKeptInLongerLine': WHATEVER THE INPUT: true; the input reads as it did. -/
def fnNamesEventGroupsKeptInLongerLineSpec : ChangeSpec := { name := "fnNamesEventGroupsKeptInLongerLine", fn := fun _ => fun
  | [d1, d2, d3] => { results := [.lit (.bool true)], args := [d1, d2, d3] }
  | _ => none }
def fnNamesEventGroupsKeptInLongerLineRow : OpenClaim := { program := "qxb6001714a", sum := "fbb048d0a3b4e00ea6920117be487fa9af99a9315227c664ede67ad9d4577818", func := "example.com/beforehand/beforehand/zzlaws_root_b1.FnNamesEventGroupsKeptInLongerLine", spec := "fnNamesEventGroupsKeptInLongerLine", inPlace := ["internal/bytealg.IndexByte", "internal/bytealg.Index"], named := ["internal/bytealg.MaxLen"], apart := false }
def FnNamesEventGroupsKeptInLongerLineSaid : Prop := fnNamesEventGroupsKeptInLongerLineRow.holds Try.pinned (OpenSpec.ofChange fnNamesEventGroupsKeptInLongerLineSpec)

/-- ITS FALSE NEIGHBOUR: 'it returns false'. Refute it at one input. -/
def fnNamesEventGroupsKeptInLongerLineWrong : ChangeSpec := { name := "fnNamesEventGroupsKeptInLongerLine", fn := fun _ => fun
  | [d1, d2, d3] => { results := [.lit (.bool false)], args := [d1, d2, d3] }
  | _ => none }
def FnNamesEventGroupsKeptInLongerLineWrongFalsely : Prop := fnNamesEventGroupsKeptInLongerLineRow.holds Try.pinned (OpenSpec.ofChange fnNamesEventGroupsKeptInLongerLineWrong)

/-- 'zzlaws_root_b1.FnNamesEventGroupsAcceptsEveryArrangement': WHATEVER THE INPUT: true; the input reads as it did. -/
def fnNamesEventGroupsAcceptsEveryArrangementSpec : ChangeSpec := { name := "fnNamesEventGroupsAcceptsEveryArrangement", fn := fun _ => fun
  | [d1, d2, d3, d4, d5, d6, d7, d8] => { results := [.lit (.bool true)], args := [d1, d2, d3, d4, d5, d6, d7, d8] }
  | _ => none }
def fnNamesEventGroupsAcceptsEveryArrangementRow : OpenClaim := { program := "qxb6001714a", sum := "fbb048d0a3b4e00ea6920117be487fa9af99a9315227c664ede67ad9d4577818", func := "example.com/beforehand/beforehand/zzlaws_root_b1.FnNamesEventGroupsAcceptsEveryArrangement", spec := "fnNamesEventGroupsAcceptsEveryArrangement", inPlace := ["internal/bytealg.IndexByte", "internal/bytealg.Index"], named := ["internal/bytealg.MaxLen"], apart := false }
def FnNamesEventGroupsAcceptsEveryArrangementSaid : Prop := fnNamesEventGroupsAcceptsEveryArrangementRow.holds Try.pinned (OpenSpec.ofChange fnNamesEventGroupsAcceptsEveryArrangementSpec)

/-- ITS FALSE NEIGHBOUR: 'it returns false'. Refute it at one input. -/
def fnNamesEventGroupsAcceptsEveryArrangementWrong : ChangeSpec := { name := "fnNamesEventGroupsAcceptsEveryArrangement", fn := fun _ => fun
  | [d1, d2, d3, d4, d5, d6, d7, d8] => { results := [.lit (.bool false)], args := [d1, d2, d3, d4, d5, d6, d7, d8] }
  | _ => none }
def FnNamesEventGroupsAcceptsEveryArrangementWrongFalsely : Prop := fnNamesEventGroupsAcceptsEveryArrangementRow.holds Try.pinned (OpenSpec.ofChange fnNamesEventGroupsAcceptsEveryArrangementWrong)

/-- 'zzlaws_root_b1.FnNamesEventGroupsRefusesWithoutOpenParen': WHATEVER THE INPUT: true; the input reads as it did. -/
def fnNamesEventGroupsRefusesWithoutOpenParenSpec : ChangeSpec := { name := "fnNamesEventGroupsRefusesWithoutOpenParen", fn := fun _ => fun
  | [d] => { results := [.lit (.bool true)], args := [d] }
  | _ => none }
def fnNamesEventGroupsRefusesWithoutOpenParenRow : OpenClaim := { program := "qxb6001714a", sum := "fbb048d0a3b4e00ea6920117be487fa9af99a9315227c664ede67ad9d4577818", func := "example.com/beforehand/beforehand/zzlaws_root_b1.FnNamesEventGroupsRefusesWithoutOpenParen", spec := "fnNamesEventGroupsRefusesWithoutOpenParen", inPlace := ["internal/bytealg.IndexByte", "internal/bytealg.Index"], named := ["internal/bytealg.MaxLen"], apart := false }
def FnNamesEventGroupsRefusesWithoutOpenParenSaid : Prop := fnNamesEventGroupsRefusesWithoutOpenParenRow.holds Try.pinned (OpenSpec.ofChange fnNamesEventGroupsRefusesWithoutOpenParenSpec)

/-- ITS FALSE NEIGHBOUR: 'it returns false'. Refute it at one input. -/
def fnNamesEventGroupsRefusesWithoutOpenParenWrong : ChangeSpec := { name := "fnNamesEventGroupsRefusesWithoutOpenParen", fn := fun _ => fun
  | [d] => { results := [.lit (.bool false)], args := [d] }
  | _ => none }
def FnNamesEventGroupsRefusesWithoutOpenParenWrongFalsely : Prop := fnNamesEventGroupsRefusesWithoutOpenParenRow.holds Try.pinned (OpenSpec.ofChange fnNamesEventGroupsRefusesWithoutOpenParenWrong)

/-- 'zzlaws_root_b1.FnLineTextUndoesLineBreak': WHATEVER THE INPUT: true; the input reads as it did. -/
def fnLineTextUndoesLineBreakSpec : ChangeSpec := { name := "fnLineTextUndoesLineBreak", fn := fun _ => fun
  | [d1, d2] => { results := [.lit (.bool true)], args := [d1, d2] }
  | _ => none }
def fnLineTextUndoesLineBreakRow : OpenClaim := { program := "qxb6001714a", sum := "fbb048d0a3b4e00ea6920117be487fa9af99a9315227c664ede67ad9d4577818", func := "example.com/beforehand/beforehand/zzlaws_root_b1.FnLineTextUndoesLineBreak", spec := "fnLineTextUndoesLineBreak", apart := false }
def FnLineTextUndoesLineBreakSaid : Prop := fnLineTextUndoesLineBreakRow.holds Try.pinned (OpenSpec.ofChange fnLineTextUndoesLineBreakSpec)

/-- ITS FALSE NEIGHBOUR: 'it returns false'. Refute it at one input. -/
def fnLineTextUndoesLineBreakWrong : ChangeSpec := { name := "fnLineTextUndoesLineBreak", fn := fun _ => fun
  | [d1, d2] => { results := [.lit (.bool false)], args := [d1, d2] }
  | _ => none }
def FnLineTextUndoesLineBreakWrongFalsely : Prop := fnLineTextUndoesLineBreakRow.holds Try.pinned (OpenSpec.ofChange fnLineTextUndoesLineBreakWrong)

/-- 'zzlaws_root_b1.FnLineTextCutsOnlyTheBreak': WHATEVER THE INPUT: true; the input reads as it did. -/
def fnLineTextCutsOnlyTheBreakSpec : ChangeSpec := { name := "fnLineTextCutsOnlyTheBreak", fn := fun _ => fun
  | [d] => { results := [.lit (.bool true)], args := [d] }
  | _ => none }
def fnLineTextCutsOnlyTheBreakRow : OpenClaim := { program := "qxb6001714a", sum := "fbb048d0a3b4e00ea6920117be487fa9af99a9315227c664ede67ad9d4577818", func := "example.com/beforehand/beforehand/zzlaws_root_b1.FnLineTextCutsOnlyTheBreak", spec := "fnLineTextCutsOnlyTheBreak", apart := false }
def FnLineTextCutsOnlyTheBreakSaid : Prop := fnLineTextCutsOnlyTheBreakRow.holds Try.pinned (OpenSpec.ofChange fnLineTextCutsOnlyTheBreakSpec)

/-- ITS FALSE NEIGHBOUR: 'it returns false'. Refute it at one input. -/
def fnLineTextCutsOnlyTheBreakWrong : ChangeSpec := { name := "fnLineTextCutsOnlyTheBreak", fn := fun _ => fun
  | [d] => { results := [.lit (.bool false)], args := [d] }
  | _ => none }
def FnLineTextCutsOnlyTheBreakWrongFalsely : Prop := fnLineTextCutsOnlyTheBreakRow.holds Try.pinned (OpenSpec.ofChange fnLineTextCutsOnlyTheBreakWrong)

/-- 'zzlaws_root_b1.FnTallyBelowCountsPlacesBelow': WHATEVER THE INPUT: true; the input reads as it did. -/
def fnTallyBelowCountsPlacesBelowSpec : ChangeSpec := { name := "fnTallyBelowCountsPlacesBelow", fn := fun _ => fun
  | [d1, d2] => { results := [.lit (.bool true)], args := [d1, d2] }
  | _ => none }
def fnTallyBelowCountsPlacesBelowRow : OpenClaim := { program := "qxb6001714a", sum := "fbb048d0a3b4e00ea6920117be487fa9af99a9315227c664ede67ad9d4577818", func := "example.com/beforehand/beforehand/zzlaws_root_b1.FnTallyBelowCountsPlacesBelow", spec := "fnTallyBelowCountsPlacesBelow", apart := false }
def FnTallyBelowCountsPlacesBelowSaid : Prop := fnTallyBelowCountsPlacesBelowRow.holds Try.pinned (OpenSpec.ofChange fnTallyBelowCountsPlacesBelowSpec)

/-- ITS FALSE NEIGHBOUR: 'it returns false'. Refute it at one input. -/
def fnTallyBelowCountsPlacesBelowWrong : ChangeSpec := { name := "fnTallyBelowCountsPlacesBelow", fn := fun _ => fun
  | [d1, d2] => { results := [.lit (.bool false)], args := [d1, d2] }
  | _ => none }
def FnTallyBelowCountsPlacesBelowWrongFalsely : Prop := fnTallyBelowCountsPlacesBelowRow.holds Try.pinned (OpenSpec.ofChange fnTallyBelowCountsPlacesBelowWrong)

/-- 'zzlaws_root_b1.FnTallyBelowMonotoneAndTotal': WHATEVER THE INPUT: true; the input reads as it did. -/
def fnTallyBelowMonotoneAndTotalSpec : ChangeSpec := { name := "fnTallyBelowMonotoneAndTotal", fn := fun _ => fun
  | [d1, d2, d3, d4] => { results := [.lit (.bool true)], args := [d1, d2, d3, d4] }
  | _ => none }
def fnTallyBelowMonotoneAndTotalRow : OpenClaim := { program := "qxb6001714a", sum := "fbb048d0a3b4e00ea6920117be487fa9af99a9315227c664ede67ad9d4577818", func := "example.com/beforehand/beforehand/zzlaws_root_b1.FnTallyBelowMonotoneAndTotal", spec := "fnTallyBelowMonotoneAndTotal", apart := false }
def FnTallyBelowMonotoneAndTotalSaid : Prop := fnTallyBelowMonotoneAndTotalRow.holds Try.pinned (OpenSpec.ofChange fnTallyBelowMonotoneAndTotalSpec)

/-- ITS FALSE NEIGHBOUR: 'it returns false'. Refute it at one input. -/
def fnTallyBelowMonotoneAndTotalWrong : ChangeSpec := { name := "fnTallyBelowMonotoneAndTotal", fn := fun _ => fun
  | [d1, d2, d3, d4] => { results := [.lit (.bool false)], args := [d1, d2, d3, d4] }
  | _ => none }
def FnTallyBelowMonotoneAndTotalWrongFalsely : Prop := fnTallyBelowMonotoneAndTotalRow.holds Try.pinned (OpenSpec.ofChange fnTallyBelowMonotoneAndTotalWrong)

end Rows
end Go.Proofs.Qxb6001714a
