/-
  No cell of these rows narrows 'for every input' (looked for: loops, veiled, ifaces, maps, wideKeys, modest, calm, conditions, laid).
  DERIVED. THE GIVEN ROWS OF THIS SEAT. 2 by the template 'for every input the law returns true; each argument reads behind the call as it read before'; 0 by the template 'total and deterministic' (their statements: Qxb6617869aTotals.lean).
  GIVEN WITH THE SEED: the statements are not yours to turn. If you find one false, say at which input.
  Laid BY PROGRAM, IN A SANDBOX (cutbox-rows.mjs): the forced cells as the released guide's own fill.sh prints them over the translation 6418bdf52b0b5bdd… (all of the seat's roots in one cut). By AI agents, Wed Nov 11 2026. No macro, syntax, notation, axiom, sorry.
-/
import Derived.Test.Qxb6617869aChecked
import GoSem.Claim
import GoSem.ClaimJoined
import GoSem.ClaimMapViews
import Derived.JoinedTies
import Derived.KernelRfl
namespace Go.Proofs.Qxb6617869a
/- THE CELL 'sum', in the pinned program and in every row, IS THE sha256 OF THE DUMP (.gsa) THAT Qxb6617869aProg.lean LOADS. Nothing in Lean hashes anything: it is a label: what it is worth is what the hold of that sum in a sandbox is worth. -/
noncomputable def Try.pinned : Pinned := { name := "qxb6617869a", sum := "6418bdf52b0b5bdd3518e9d51b7fa6e200ad0b9b9a1d6d5a9a4e7bcfc3380e46", checked := Try.checked }
namespace Rows
def none {H : Type} : Left H := { results := [], args := [] }

/-- 'zzlaws_internal_crc16_b1.FnTableIsRemainderOfByteTimesX16': WHATEVER THE INPUT: true; the input reads as it did. -/
def fnTableIsRemainderOfByteTimesX16Spec : ChangeSpec := { name := "fnTableIsRemainderOfByteTimesX16", fn := fun _ => fun
  | [] => { results := [.lit (.bool true)], args := [] }
  | _ => none }
def fnTableIsRemainderOfByteTimesX16Row : OpenClaim := { program := "qxb6617869a", sum := "6418bdf52b0b5bdd3518e9d51b7fa6e200ad0b9b9a1d6d5a9a4e7bcfc3380e46", func := "example.com/rebound/rebound/zzlaws_internal_crc16_b1.FnTableIsRemainderOfByteTimesX16", spec := "fnTableIsRemainderOfByteTimesX16", apart := false }
def FnTableIsRemainderOfByteTimesX16Said : Prop := fnTableIsRemainderOfByteTimesX16Row.holds Try.pinned (OpenSpec.ofChange fnTableIsRemainderOfByteTimesX16Spec)

/-- ITS FALSE NEIGHBOUR: 'it returns false'. Refute it at one input. -/
def fnTableIsRemainderOfByteTimesX16Wrong : ChangeSpec := { name := "fnTableIsRemainderOfByteTimesX16", fn := fun _ => fun
  | [] => { results := [.lit (.bool false)], args := [] }
  | _ => none }
def FnTableIsRemainderOfByteTimesX16WrongFalsely : Prop := fnTableIsRemainderOfByteTimesX16Row.holds Try.pinned (OpenSpec.ofChange fnTableIsRemainderOfByteTimesX16Wrong)

/-- 'zzlaws_internal_crc16_b1.FnTableCRCAgreesWithLongDivision': WHATEVER THE INPUT: true; the input reads as it did. -/
def fnTableCRCAgreesWithLongDivisionSpec : ChangeSpec := { name := "fnTableCRCAgreesWithLongDivision", fn := fun _ => fun
  | [d] => { results := [.lit (.bool true)], args := [d] }
  | _ => none }
def fnTableCRCAgreesWithLongDivisionRow : OpenClaim := { program := "qxb6617869a", sum := "6418bdf52b0b5bdd3518e9d51b7fa6e200ad0b9b9a1d6d5a9a4e7bcfc3380e46", func := "example.com/rebound/rebound/zzlaws_internal_crc16_b1.FnTableCRCAgreesWithLongDivision", spec := "fnTableCRCAgreesWithLongDivision", apart := false }
def FnTableCRCAgreesWithLongDivisionSaid : Prop := fnTableCRCAgreesWithLongDivisionRow.holds Try.pinned (OpenSpec.ofChange fnTableCRCAgreesWithLongDivisionSpec)

/-- ITS FALSE NEIGHBOUR: 'it returns false'. Refute it at one input. -/
def fnTableCRCAgreesWithLongDivisionWrong : ChangeSpec := { name := "fnTableCRCAgreesWithLongDivision", fn := fun _ => fun
  | [d] => { results := [.lit (.bool false)], args := [d] }
  | _ => none }
def FnTableCRCAgreesWithLongDivisionWrongFalsely : Prop := fnTableCRCAgreesWithLongDivisionRow.holds Try.pinned (OpenSpec.ofChange fnTableCRCAgreesWithLongDivisionWrong)

end Rows
end Go.Proofs.Qxb6617869a
