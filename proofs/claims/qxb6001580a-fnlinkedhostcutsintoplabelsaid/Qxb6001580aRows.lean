/-
  No cell of these rows narrows 'for every input' (looked for: loops, veiled, ifaces, maps, wideKeys, modest, calm, conditions, laid).
  DERIVED. THE GIVEN ROWS OF THIS SEAT. 2 by the template 'for every input the law returns true; each argument reads behind the call as it read before'; 0 by the template 'total and deterministic' (their statements: Qxb6001580aTotals.lean).
  GIVEN WITH THE SEED: the statements are not yours to turn. If you find one false, say at which input.
  Laid BY PROGRAM, IN A SANDBOX (cutbox-rows.mjs): the forced cells as the released guide's own fill.sh prints them over the translation f30875ac8661d8a2… (all of the seat's roots in one cut). By AI agents, Wed Nov 11 2026. No macro, syntax, notation, axiom, sorry.
-/
import Derived.Test.Qxb6001580aChecked
import GoSem.Claim
import GoSem.ClaimJoined
import GoSem.ClaimMapViews
import Derived.JoinedTies
import Derived.KernelRfl
namespace Go.Proofs.Qxb6001580a
/- THE CELL 'sum', in the pinned program and in every row, IS THE sha256 OF THE DUMP (.gsa) THAT Qxb6001580aProg.lean LOADS. Nothing in Lean hashes anything: it is a label: what it is worth is what the hold of that sum in a sandbox is worth. -/
noncomputable def Try.pinned : Pinned := { name := "qxb6001580a", sum := "f30875ac8661d8a2060137c78359b9aaba987c6b0f294909bd6f924ed1da645b", checked := Try.checked }
namespace Rows
def none {H : Type} : Left H := { results := [], args := [] }

/-- 'zzlaws_root_b1.FnLinkedHostCutsAtAnEnd': WHATEVER THE INPUT: true; the input reads as it did. -/
def fnLinkedHostCutsAtAnEndSpec : ChangeSpec := { name := "fnLinkedHostCutsAtAnEnd", fn := fun _ => fun
  | [d] => { results := [.lit (.bool true)], args := [d] }
  | _ => none }
def fnLinkedHostCutsAtAnEndRow : OpenClaim := { program := "qxb6001580a", sum := "f30875ac8661d8a2060137c78359b9aaba987c6b0f294909bd6f924ed1da645b", func := "example.com/ligature/ligature/zzlaws_root_b1.FnLinkedHostCutsAtAnEnd", spec := "fnLinkedHostCutsAtAnEnd", inPlace := ["internal/bytealg.IndexByteString", "internal/bytealg.IndexString"], named := ["internal/bytealg.MaxLen"], apart := false }
def FnLinkedHostCutsAtAnEndSaid : Prop := fnLinkedHostCutsAtAnEndRow.holds Try.pinned (OpenSpec.ofChange fnLinkedHostCutsAtAnEndSpec)

/-- ITS FALSE NEIGHBOUR: 'it returns false'. Refute it at one input. -/
def fnLinkedHostCutsAtAnEndWrong : ChangeSpec := { name := "fnLinkedHostCutsAtAnEnd", fn := fun _ => fun
  | [d] => { results := [.lit (.bool false)], args := [d] }
  | _ => none }
def FnLinkedHostCutsAtAnEndWrongFalsely : Prop := fnLinkedHostCutsAtAnEndRow.holds Try.pinned (OpenSpec.ofChange fnLinkedHostCutsAtAnEndWrong)

/-- 'zzlaws_root_b1.FnLinkedHostCutsInTopLabel': WHATEVER THE INPUT: true; the input reads as it did. -/
def fnLinkedHostCutsInTopLabelSpec : ChangeSpec := { name := "fnLinkedHostCutsInTopLabel", fn := fun _ => fun
  | [d1, d2] => { results := [.lit (.bool true)], args := [d1, d2] }
  | _ => none }
def fnLinkedHostCutsInTopLabelRow : OpenClaim := { program := "qxb6001580a", sum := "f30875ac8661d8a2060137c78359b9aaba987c6b0f294909bd6f924ed1da645b", func := "example.com/ligature/ligature/zzlaws_root_b1.FnLinkedHostCutsInTopLabel", spec := "fnLinkedHostCutsInTopLabel", inPlace := ["internal/bytealg.IndexByteString", "internal/bytealg.IndexString"], named := ["internal/bytealg.MaxLen"], apart := false }
def FnLinkedHostCutsInTopLabelSaid : Prop := fnLinkedHostCutsInTopLabelRow.holds Try.pinned (OpenSpec.ofChange fnLinkedHostCutsInTopLabelSpec)

/-- ITS FALSE NEIGHBOUR: 'it returns false'. Refute it at one input. -/
def fnLinkedHostCutsInTopLabelWrong : ChangeSpec := { name := "fnLinkedHostCutsInTopLabel", fn := fun _ => fun
  | [d1, d2] => { results := [.lit (.bool false)], args := [d1, d2] }
  | _ => none }
def FnLinkedHostCutsInTopLabelWrongFalsely : Prop := fnLinkedHostCutsInTopLabelRow.holds Try.pinned (OpenSpec.ofChange fnLinkedHostCutsInTopLabelWrong)

end Rows
end Go.Proofs.Qxb6001580a
