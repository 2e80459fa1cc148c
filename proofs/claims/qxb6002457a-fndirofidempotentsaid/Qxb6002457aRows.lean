/-
  No cell of these rows narrows 'for every input' (looked for: loops, veiled, ifaces, maps, wideKeys, modest, calm, conditions, laid).
  DERIVED. THE GIVEN ROWS OF THIS SEAT. 5 by the template 'for every input the law returns true; each argument reads behind the call as it read before'; 0 by the template 'total and deterministic' (their statements: Qxb6002457aTotals.lean).
  GIVEN WITH THE SEED: the statements are not yours to turn. If you find one false, say at which input.
  Laid BY PROGRAM, IN A SANDBOX (cutbox-rows.mjs): the forced cells as the released guide's own fill.sh prints them over the translation a65e124d5aae4974… (all of the seat's roots in one cut). By AI agents, Wed Nov 11 2026. No macro, syntax, notation, axiom, sorry.
-/
import Derived.Test.Qxb6002457aChecked
import GoSem.Claim
import GoSem.ClaimJoined
import GoSem.ClaimMapViews
import Derived.JoinedTies
import Derived.KernelRfl
namespace Go.Proofs.Qxb6002457a
/- THE CELL 'sum', in the pinned program and in every row, IS THE sha256 OF THE DUMP (.gsa) THAT Qxb6002457aProg.lean LOADS. Nothing in Lean hashes anything: it is a label: what it is worth is what the hold of that sum in a sandbox is worth. -/
noncomputable def Try.pinned : Pinned := { name := "qxb6002457a", sum := "a65e124d5aae49743e1476f00b59451c500447cb12ab945acb0cf4e01cd42fec", checked := Try.checked }
namespace Rows
def none {H : Type} : Left H := { results := [], args := [] }

/-- 'zzlaws_atomicfile_g1.FnDirOfIdempotent': WHATEVER THE INPUT: true; the input reads as it did. -/
def fnDirOfIdempotentSpec : ChangeSpec := { name := "fnDirOfIdempotent", fn := fun _ => fun
  | [d] => { results := [.lit (.bool true)], args := [d] }
  | _ => none }
def fnDirOfIdempotentRow : OpenClaim := { program := "qxb6002457a", sum := "a65e124d5aae49743e1476f00b59451c500447cb12ab945acb0cf4e01cd42fec", func := "example.com/zhaomu/zhaomu/zzlaws_atomicfile_g1.FnDirOfIdempotent", spec := "fnDirOfIdempotent", inPlace := ["internal/bytealg.IndexByteString"], apart := false }
def FnDirOfIdempotentSaid : Prop := fnDirOfIdempotentRow.holds Try.pinned (OpenSpec.ofChange fnDirOfIdempotentSpec)

/-- ITS FALSE NEIGHBOUR: 'it returns false'. Refute it at one input. -/
def fnDirOfIdempotentWrong : ChangeSpec := { name := "fnDirOfIdempotent", fn := fun _ => fun
  | [d] => { results := [.lit (.bool false)], args := [d] }
  | _ => none }
def FnDirOfIdempotentWrongFalsely : Prop := fnDirOfIdempotentRow.holds Try.pinned (OpenSpec.ofChange fnDirOfIdempotentWrong)

/-- 'zzlaws_atomicfile_g1.FnDirOfNameInDir': WHATEVER THE INPUT: true; the input reads as it did. -/
def fnDirOfNameInDirSpec : ChangeSpec := { name := "fnDirOfNameInDir", fn := fun _ => fun
  | [d1, d2] => { results := [.lit (.bool true)], args := [d1, d2] }
  | _ => none }
def fnDirOfNameInDirRow : OpenClaim := { program := "qxb6002457a", sum := "a65e124d5aae49743e1476f00b59451c500447cb12ab945acb0cf4e01cd42fec", func := "example.com/zhaomu/zhaomu/zzlaws_atomicfile_g1.FnDirOfNameInDir", spec := "fnDirOfNameInDir", inPlace := ["internal/bytealg.IndexByteString"], apart := false }
def FnDirOfNameInDirSaid : Prop := fnDirOfNameInDirRow.holds Try.pinned (OpenSpec.ofChange fnDirOfNameInDirSpec)

/-- ITS FALSE NEIGHBOUR: 'it returns false'. Refute it at one input. -/
def fnDirOfNameInDirWrong : ChangeSpec := { name := "fnDirOfNameInDir", fn := fun _ => fun
  | [d1, d2] => { results := [.lit (.bool false)], args := [d1, d2] }
  | _ => none }
def FnDirOfNameInDirWrongFalsely : Prop := fnDirOfNameInDirRow.holds Try.pinned (OpenSpec.ofChange fnDirOfNameInDirWrong)

/-- 'zzlaws_batch_g1.FnListKindsParsesBack': WHATEVER THE INPUT: true; the input reads as it did. -/
def fnListKindsParsesBackSpec : ChangeSpec := { name := "fnListKindsParsesBack", fn := fun _ => fun
  | [d] => { results := [.lit (.bool true)], args := [d] }
  | _ => none }
def fnListKindsParsesBackRow : OpenClaim := { program := "qxb6002457a", sum := "a65e124d5aae49743e1476f00b59451c500447cb12ab945acb0cf4e01cd42fec", func := "example.com/zhaomu/zhaomu/zzlaws_batch_g1.FnListKindsParsesBack", spec := "fnListKindsParsesBack", inPlace := ["internal/abi.NoEscape", "internal/bytealg.MakeNoZero"], apart := false }
def FnListKindsParsesBackSaid : Prop := fnListKindsParsesBackRow.holds Try.pinned (OpenSpec.ofChange fnListKindsParsesBackSpec)

/-- ITS FALSE NEIGHBOUR: 'it returns false'. Refute it at one input. -/
def fnListKindsParsesBackWrong : ChangeSpec := { name := "fnListKindsParsesBack", fn := fun _ => fun
  | [d] => { results := [.lit (.bool false)], args := [d] }
  | _ => none }
def FnListKindsParsesBackWrongFalsely : Prop := fnListKindsParsesBackRow.holds Try.pinned (OpenSpec.ofChange fnListKindsParsesBackWrong)

/-- 'zzlaws_batch_g1.FnListKindsLength': WHATEVER THE INPUT: true; the input reads as it did. -/
def fnListKindsLengthSpec : ChangeSpec := { name := "fnListKindsLength", fn := fun _ => fun
  | [d] => { results := [.lit (.bool true)], args := [d] }
  | _ => none }
def fnListKindsLengthRow : OpenClaim := { program := "qxb6002457a", sum := "a65e124d5aae49743e1476f00b59451c500447cb12ab945acb0cf4e01cd42fec", func := "example.com/zhaomu/zhaomu/zzlaws_batch_g1.FnListKindsLength", spec := "fnListKindsLength", inPlace := ["internal/abi.NoEscape", "internal/bytealg.MakeNoZero"], apart := false }
def FnListKindsLengthSaid : Prop := fnListKindsLengthRow.holds Try.pinned (OpenSpec.ofChange fnListKindsLengthSpec)

/-- ITS FALSE NEIGHBOUR: 'it returns false'. Refute it at one input. -/
def fnListKindsLengthWrong : ChangeSpec := { name := "fnListKindsLength", fn := fun _ => fun
  | [d] => { results := [.lit (.bool false)], args := [d] }
  | _ => none }
def FnListKindsLengthWrongFalsely : Prop := fnListKindsLengthRow.holds Try.pinned (OpenSpec.ofChange fnListKindsLengthWrong)

/-- 'zzlaws_batch_g1.FnListKindsEnds': WHATEVER THE INPUT: true; the input reads as it did. -/
def fnListKindsEndsSpec : ChangeSpec := { name := "fnListKindsEnds", fn := fun _ => fun
  | [d] => { results := [.lit (.bool true)], args := [d] }
  | _ => none }
def fnListKindsEndsRow : OpenClaim := { program := "qxb6002457a", sum := "a65e124d5aae49743e1476f00b59451c500447cb12ab945acb0cf4e01cd42fec", func := "example.com/zhaomu/zhaomu/zzlaws_batch_g1.FnListKindsEnds", spec := "fnListKindsEnds", inPlace := ["internal/abi.NoEscape", "internal/bytealg.MakeNoZero"], apart := false }
def FnListKindsEndsSaid : Prop := fnListKindsEndsRow.holds Try.pinned (OpenSpec.ofChange fnListKindsEndsSpec)

/-- ITS FALSE NEIGHBOUR: 'it returns false'. Refute it at one input. -/
def fnListKindsEndsWrong : ChangeSpec := { name := "fnListKindsEnds", fn := fun _ => fun
  | [d] => { results := [.lit (.bool false)], args := [d] }
  | _ => none }
def FnListKindsEndsWrongFalsely : Prop := fnListKindsEndsRow.holds Try.pinned (OpenSpec.ofChange fnListKindsEndsWrong)

end Rows
end Go.Proofs.Qxb6002457a
