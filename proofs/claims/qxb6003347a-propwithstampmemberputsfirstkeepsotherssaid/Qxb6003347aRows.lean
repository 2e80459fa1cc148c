/-
  No cell of these rows narrows 'for every input' (looked for: loops, veiled, ifaces, maps, wideKeys, modest, calm, conditions, laid).
  DERIVED. THE GIVEN ROWS OF THIS SEAT. 3 by the template 'for every input the law returns true; each argument reads behind the call as it read before'; 0 by the template 'total and deterministic' (their statements: Qxb6003347aTotals.lean).
  GIVEN WITH THE SEED: the statements are not yours to turn. If you find one false, say at which input.
  Laid BY PROGRAM, IN A SANDBOX (cutbox-rows.mjs): the forced cells as the released guide's own fill.sh prints them over the translation 9789310fbdd5d60c… (all of the seat's roots in one cut). By AI agents, Wed Nov 11 2026. No macro, syntax, notation, axiom, sorry.
-/
import Derived.Test.Qxb6003347aChecked
import GoSem.Claim
import GoSem.ClaimJoined
import GoSem.ClaimMapViews
import Derived.JoinedTies
import Derived.KernelRfl
namespace Go.Proofs.Qxb6003347a
/- THE CELL 'sum', in the pinned program and in every row, IS THE sha256 OF THE DUMP (.gsa) THAT Qxb6003347aProg.lean LOADS. Nothing in Lean hashes anything: it is a label: what it is worth is what the hold of that sum in a sandbox is worth. -/
noncomputable def Try.pinned : Pinned := { name := "qxb6003347a", sum := "9789310fbdd5d60cbaf6f7887c83f5573a607ace6aae26a1afc6e2d01b92ae29", checked := Try.checked }
namespace Rows
def none {H : Type} : Left H := { results := [], args := [] }

/-- 'zzlaws_root_c5.PropReachBetweenWindowAndCeiling': WHATEVER THE INPUT: true; the input reads as it did. -/
def propReachBetweenWindowAndCeilingSpec : ChangeSpec := { name := "propReachBetweenWindowAndCeiling", fn := fun _ => fun
  | [d1, d2, d3, d4, d5, d6, d7, d8] => { results := [.lit (.bool true)], args := [d1, d2, d3, d4, d5, d6, d7, d8] }
  | _ => none }
def propReachBetweenWindowAndCeilingRow : OpenClaim := { program := "qxb6003347a", sum := "9789310fbdd5d60cbaf6f7887c83f5573a607ace6aae26a1afc6e2d01b92ae29", func := "example.com/tallyclock/tallyclock/zzlaws_root_c5.PropReachBetweenWindowAndCeiling", spec := "propReachBetweenWindowAndCeiling", apart := false }
def PropReachBetweenWindowAndCeilingSaid : Prop := propReachBetweenWindowAndCeilingRow.holds Try.pinned (OpenSpec.ofChange propReachBetweenWindowAndCeilingSpec)

/-- ITS FALSE NEIGHBOUR: 'it returns false'. Refute it at one input. -/
def propReachBetweenWindowAndCeilingWrong : ChangeSpec := { name := "propReachBetweenWindowAndCeiling", fn := fun _ => fun
  | [d1, d2, d3, d4, d5, d6, d7, d8] => { results := [.lit (.bool false)], args := [d1, d2, d3, d4, d5, d6, d7, d8] }
  | _ => none }
def PropReachBetweenWindowAndCeilingWrongFalsely : Prop := propReachBetweenWindowAndCeilingRow.holds Try.pinned (OpenSpec.ofChange propReachBetweenWindowAndCeilingWrong)

/-- 'zzlaws_root_c5.PropTraceStateMembersFollowW3CListRule': WHATEVER THE INPUT: true; the input reads as it did. -/
def propTraceStateMembersFollowW3CListRuleSpec : ChangeSpec := { name := "propTraceStateMembersFollowW3CListRule", fn := fun _ => fun
  | [d1, d2, d3] => { results := [.lit (.bool true)], args := [d1, d2, d3] }
  | _ => none }
def propTraceStateMembersFollowW3CListRuleRow : OpenClaim := { program := "qxb6003347a", sum := "9789310fbdd5d60cbaf6f7887c83f5573a607ace6aae26a1afc6e2d01b92ae29", func := "example.com/tallyclock/tallyclock/zzlaws_root_c5.PropTraceStateMembersFollowW3CListRule", spec := "propTraceStateMembersFollowW3CListRule", inPlace := ["internal/bytealg.IndexByteString", "internal/bytealg.IndexString"], unfollowed := true, recurses := true, named := ["internal/bytealg.MaxLen"], apart := false }
def PropTraceStateMembersFollowW3CListRuleSaid : Prop := propTraceStateMembersFollowW3CListRuleRow.holds Try.pinned (OpenSpec.ofChange propTraceStateMembersFollowW3CListRuleSpec)

/-- ITS FALSE NEIGHBOUR: 'it returns false'. Refute it at one input. -/
def propTraceStateMembersFollowW3CListRuleWrong : ChangeSpec := { name := "propTraceStateMembersFollowW3CListRule", fn := fun _ => fun
  | [d1, d2, d3] => { results := [.lit (.bool false)], args := [d1, d2, d3] }
  | _ => none }
def PropTraceStateMembersFollowW3CListRuleWrongFalsely : Prop := propTraceStateMembersFollowW3CListRuleRow.holds Try.pinned (OpenSpec.ofChange propTraceStateMembersFollowW3CListRuleWrong)

/-- 'zzlaws_root_c5.PropWithStampMemberPutsFirstKeepsOthers': WHATEVER THE INPUT: true; the input reads as it did. -/
def propWithStampMemberPutsFirstKeepsOthersSpec : ChangeSpec := { name := "propWithStampMemberPutsFirstKeepsOthers", fn := fun _ => fun
  | [d1, d2] => { results := [.lit (.bool true)], args := [d1, d2] }
  | _ => none }
def propWithStampMemberPutsFirstKeepsOthersRow : OpenClaim := { program := "qxb6003347a", sum := "9789310fbdd5d60cbaf6f7887c83f5573a607ace6aae26a1afc6e2d01b92ae29", func := "example.com/tallyclock/tallyclock/zzlaws_root_c5.PropWithStampMemberPutsFirstKeepsOthers", spec := "propWithStampMemberPutsFirstKeepsOthers", inPlace := ["internal/bytealg.IndexByteString", "internal/bytealg.IndexString", "internal/abi.NoEscape", "internal/bytealg.MakeNoZero"], unfollowed := true, recurses := true, named := ["internal/bytealg.MaxLen"], apart := false }
def PropWithStampMemberPutsFirstKeepsOthersSaid : Prop := propWithStampMemberPutsFirstKeepsOthersRow.holds Try.pinned (OpenSpec.ofChange propWithStampMemberPutsFirstKeepsOthersSpec)

/-- ITS FALSE NEIGHBOUR: 'it returns false'. Refute it at one input. -/
def propWithStampMemberPutsFirstKeepsOthersWrong : ChangeSpec := { name := "propWithStampMemberPutsFirstKeepsOthers", fn := fun _ => fun
  | [d1, d2] => { results := [.lit (.bool false)], args := [d1, d2] }
  | _ => none }
def PropWithStampMemberPutsFirstKeepsOthersWrongFalsely : Prop := propWithStampMemberPutsFirstKeepsOthersRow.holds Try.pinned (OpenSpec.ofChange propWithStampMemberPutsFirstKeepsOthersWrong)

end Rows
end Go.Proofs.Qxb6003347a
