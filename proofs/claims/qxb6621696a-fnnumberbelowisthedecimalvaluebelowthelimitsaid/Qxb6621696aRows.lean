/-
  No cell of these rows narrows 'for every input' (looked for: loops, veiled, ifaces, maps, wideKeys, modest, calm, conditions, laid).
  DERIVED. THE GIVEN ROWS OF THIS SEAT. 3 by the template 'for every input the law returns true; each argument reads behind the call as it read before'; 0 by the template 'total and deterministic' (their statements: Qxb6621696aTotals.lean).
  GIVEN WITH THE SEED: the statements are not yours to turn. If you find one false, say at which input.
  Laid BY PROGRAM, IN A SANDBOX (cutbox-rows.mjs): the forced cells as the released guide's own fill.sh prints them over the translation d26e59df1cdfd471… (all of the seat's roots in one cut). By AI agents, Wed Nov 11 2026. No macro, syntax, notation, axiom, sorry.
-/
import Derived.Test.Qxb6621696aChecked
import GoSem.Claim
import GoSem.ClaimJoined
import GoSem.ClaimMapViews
import Derived.JoinedTies
import Derived.KernelRfl
namespace Go.Proofs.Qxb6621696a
/- THE CELL 'sum', in the pinned program and in every row, IS THE sha256 OF THE DUMP (.gsa) THAT Qxb6621696aProg.lean LOADS. Nothing in Lean hashes anything: it is a label: what it is worth is what the hold of that sum in a sandbox is worth. -/
noncomputable def Try.pinned : Pinned := { name := "qxb6621696a", sum := "d26e59df1cdfd4710c488d3319b51a1e47d4bed11a527049ee180de864fcd954", checked := Try.checked }
namespace Rows
def none {H : Type} : Left H := { results := [], args := [] }

/-- 'zzlaws_internal_task_b1.FnNumberBelowIsTheDecimalValueBelowTheLimit': WHATEVER THE INPUT: true; the input reads as it did. -/
def fnNumberBelowIsTheDecimalValueBelowTheLimitSpec : ChangeSpec := { name := "fnNumberBelowIsTheDecimalValueBelowTheLimit", fn := fun _ => fun
  | [d1, d2] => { results := [.lit (.bool true)], args := [d1, d2] }
  | _ => none }
def fnNumberBelowIsTheDecimalValueBelowTheLimitRow : OpenClaim := { program := "qxb6621696a", sum := "d26e59df1cdfd4710c488d3319b51a1e47d4bed11a527049ee180de864fcd954", func := "example.com/markwright/markwright/zzlaws_internal_task_b1.FnNumberBelowIsTheDecimalValueBelowTheLimit", spec := "fnNumberBelowIsTheDecimalValueBelowTheLimit", apart := false }
def FnNumberBelowIsTheDecimalValueBelowTheLimitSaid : Prop := fnNumberBelowIsTheDecimalValueBelowTheLimitRow.holds Try.pinned (OpenSpec.ofChange fnNumberBelowIsTheDecimalValueBelowTheLimitSpec)

/-- ITS FALSE NEIGHBOUR: 'it returns false'. Refute it at one input. -/
def fnNumberBelowIsTheDecimalValueBelowTheLimitWrong : ChangeSpec := { name := "fnNumberBelowIsTheDecimalValueBelowTheLimit", fn := fun _ => fun
  | [d1, d2] => { results := [.lit (.bool false)], args := [d1, d2] }
  | _ => none }
def FnNumberBelowIsTheDecimalValueBelowTheLimitWrongFalsely : Prop := fnNumberBelowIsTheDecimalValueBelowTheLimitRow.holds Try.pinned (OpenSpec.ofChange fnNumberBelowIsTheDecimalValueBelowTheLimitWrong)

/-- 'zzlaws_internal_task_b1.FnOrderKeyOrdersIDsByTheirNumbers': WHATEVER THE INPUT: true; the input reads as it did. -/
def fnOrderKeyOrdersIDsByTheirNumbersSpec : ChangeSpec := { name := "fnOrderKeyOrdersIDsByTheirNumbers", fn := fun _ => fun
  | [d1, d2] => { results := [.lit (.bool true)], args := [d1, d2] }
  | _ => none }
def fnOrderKeyOrdersIDsByTheirNumbersRow : OpenClaim := { program := "qxb6621696a", sum := "d26e59df1cdfd4710c488d3319b51a1e47d4bed11a527049ee180de864fcd954", func := "example.com/markwright/markwright/zzlaws_internal_task_b1.FnOrderKeyOrdersIDsByTheirNumbers", spec := "fnOrderKeyOrdersIDsByTheirNumbers", inPlace := ["internal/bytealg.IndexByteString", "internal/bytealg.IndexString"], named := ["internal/bytealg.MaxLen"], apart := false }
def FnOrderKeyOrdersIDsByTheirNumbersSaid : Prop := fnOrderKeyOrdersIDsByTheirNumbersRow.holds Try.pinned (OpenSpec.ofChange fnOrderKeyOrdersIDsByTheirNumbersSpec)

/-- ITS FALSE NEIGHBOUR: 'it returns false'. Refute it at one input. -/
def fnOrderKeyOrdersIDsByTheirNumbersWrong : ChangeSpec := { name := "fnOrderKeyOrdersIDsByTheirNumbers", fn := fun _ => fun
  | [d1, d2] => { results := [.lit (.bool false)], args := [d1, d2] }
  | _ => none }
def FnOrderKeyOrdersIDsByTheirNumbersWrongFalsely : Prop := fnOrderKeyOrdersIDsByTheirNumbersRow.holds Try.pinned (OpenSpec.ofChange fnOrderKeyOrdersIDsByTheirNumbersWrong)

/-- 'zzlaws_internal_task_b1.FnOrderKeyOfASubtaskExtendsItsParent': WHATEVER THE INPUT: true; the input reads as it did. -/
def fnOrderKeyOfASubtaskExtendsItsParentSpec : ChangeSpec := { name := "fnOrderKeyOfASubtaskExtendsItsParent", fn := fun _ => fun
  | [d1, d2] => { results := [.lit (.bool true)], args := [d1, d2] }
  | _ => none }
def fnOrderKeyOfASubtaskExtendsItsParentRow : OpenClaim := { program := "qxb6621696a", sum := "d26e59df1cdfd4710c488d3319b51a1e47d4bed11a527049ee180de864fcd954", func := "example.com/markwright/markwright/zzlaws_internal_task_b1.FnOrderKeyOfASubtaskExtendsItsParent", spec := "fnOrderKeyOfASubtaskExtendsItsParent", inPlace := ["internal/bytealg.IndexByteString", "internal/bytealg.IndexString"], named := ["internal/bytealg.MaxLen"], apart := false }
def FnOrderKeyOfASubtaskExtendsItsParentSaid : Prop := fnOrderKeyOfASubtaskExtendsItsParentRow.holds Try.pinned (OpenSpec.ofChange fnOrderKeyOfASubtaskExtendsItsParentSpec)

/-- ITS FALSE NEIGHBOUR: 'it returns false'. Refute it at one input. -/
def fnOrderKeyOfASubtaskExtendsItsParentWrong : ChangeSpec := { name := "fnOrderKeyOfASubtaskExtendsItsParent", fn := fun _ => fun
  | [d1, d2] => { results := [.lit (.bool false)], args := [d1, d2] }
  | _ => none }
def FnOrderKeyOfASubtaskExtendsItsParentWrongFalsely : Prop := fnOrderKeyOfASubtaskExtendsItsParentRow.holds Try.pinned (OpenSpec.ofChange fnOrderKeyOfASubtaskExtendsItsParentWrong)

end Rows
end Go.Proofs.Qxb6621696a
