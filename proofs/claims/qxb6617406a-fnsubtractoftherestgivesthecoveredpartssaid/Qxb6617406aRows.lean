/-
  No cell of these rows narrows 'for every input' (looked for: loops, veiled, ifaces, maps, wideKeys, modest, calm, conditions, laid).
  DERIVED. THE GIVEN ROWS OF THIS SEAT. 5 by the template 'for every input the law returns true; each argument reads behind the call as it read before'; 0 by the template 'total and deterministic' (their statements: Qxb6617406aTotals.lean).
  GIVEN WITH THE SEED: the statements are not yours to turn. If you find one false, say at which input.
  Laid BY PROGRAM, IN A SANDBOX (cutbox-rows.mjs): the forced cells as the released guide's own fill.sh prints them over the translation 42d350ae8e41b029… (all of the seat's roots in one cut). By AI agents, Wed Nov 11 2026. No macro, syntax, notation, axiom, sorry.
-/
import Derived.Test.Qxb6617406aChecked
import GoSem.Claim
import GoSem.ClaimJoined
import GoSem.ClaimMapViews
import Derived.JoinedTies
import Derived.KernelRfl
namespace Go.Proofs.Qxb6617406a
/- THE CELL 'sum', in the pinned program and in every row, IS THE sha256 OF THE DUMP (.gsa) THAT Qxb6617406aProg.lean LOADS. Nothing in Lean hashes anything: it is a label: what it is worth is what the hold of that sum in a sandbox is worth. -/
noncomputable def Try.pinned : Pinned := { name := "qxb6617406a", sum := "42d350ae8e41b029b4b7713546cf48a7cd5b532937dca8a3260ee30b121e2eed", checked := Try.checked }
namespace Rows
def none {H : Type} : Left H := { results := [], args := [] }

/-- 'zzlaws_internal_cover_b1.FnSubtractIsExactlyTheUncoveredParts': WHATEVER THE INPUT: true; the input reads as it did. -/
def fnSubtractIsExactlyTheUncoveredPartsSpec : ChangeSpec := { name := "fnSubtractIsExactlyTheUncoveredParts", fn := fun _ => fun
  | [d1, d2] => { results := [.lit (.bool true)], args := [d1, d2] }
  | _ => none }
def fnSubtractIsExactlyTheUncoveredPartsRow : OpenClaim := { program := "qxb6617406a", sum := "42d350ae8e41b029b4b7713546cf48a7cd5b532937dca8a3260ee30b121e2eed", func := "example.com/inlay/inlay/zzlaws_internal_cover_b1.FnSubtractIsExactlyTheUncoveredParts", spec := "fnSubtractIsExactlyTheUncoveredParts", apart := false }
def FnSubtractIsExactlyTheUncoveredPartsSaid : Prop := fnSubtractIsExactlyTheUncoveredPartsRow.holds Try.pinned (OpenSpec.ofChange fnSubtractIsExactlyTheUncoveredPartsSpec)

/-- ITS FALSE NEIGHBOUR: 'it returns false'. Refute it at one input. -/
def fnSubtractIsExactlyTheUncoveredPartsWrong : ChangeSpec := { name := "fnSubtractIsExactlyTheUncoveredParts", fn := fun _ => fun
  | [d1, d2] => { results := [.lit (.bool false)], args := [d1, d2] }
  | _ => none }
def FnSubtractIsExactlyTheUncoveredPartsWrongFalsely : Prop := fnSubtractIsExactlyTheUncoveredPartsRow.holds Try.pinned (OpenSpec.ofChange fnSubtractIsExactlyTheUncoveredPartsWrong)

/-- 'zzlaws_internal_cover_b1.FnSubtractAtAnyCutOfMinus': WHATEVER THE INPUT: true; the input reads as it did. -/
def fnSubtractAtAnyCutOfMinusSpec : ChangeSpec := { name := "fnSubtractAtAnyCutOfMinus", fn := fun _ => fun
  | [d1, d2, d3] => { results := [.lit (.bool true)], args := [d1, d2, d3] }
  | _ => none }
def fnSubtractAtAnyCutOfMinusRow : OpenClaim := { program := "qxb6617406a", sum := "42d350ae8e41b029b4b7713546cf48a7cd5b532937dca8a3260ee30b121e2eed", func := "example.com/inlay/inlay/zzlaws_internal_cover_b1.FnSubtractAtAnyCutOfMinus", spec := "fnSubtractAtAnyCutOfMinus", apart := false }
def FnSubtractAtAnyCutOfMinusSaid : Prop := fnSubtractAtAnyCutOfMinusRow.holds Try.pinned (OpenSpec.ofChange fnSubtractAtAnyCutOfMinusSpec)

/-- ITS FALSE NEIGHBOUR: 'it returns false'. Refute it at one input. -/
def fnSubtractAtAnyCutOfMinusWrong : ChangeSpec := { name := "fnSubtractAtAnyCutOfMinus", fn := fun _ => fun
  | [d1, d2, d3] => { results := [.lit (.bool false)], args := [d1, d2, d3] }
  | _ => none }
def FnSubtractAtAnyCutOfMinusWrongFalsely : Prop := fnSubtractAtAnyCutOfMinusRow.holds Try.pinned (OpenSpec.ofChange fnSubtractAtAnyCutOfMinusWrong)

/-- 'zzlaws_internal_cover_b1.FnSubtractOfTheRestGivesTheCoveredParts': WHATEVER THE INPUT: true; the input reads as it did. -/
def fnSubtractOfTheRestGivesTheCoveredPartsSpec : ChangeSpec := { name := "fnSubtractOfTheRestGivesTheCoveredParts", fn := fun _ => fun
  | [d1, d2] => { results := [.lit (.bool true)], args := [d1, d2] }
  | _ => none }
def fnSubtractOfTheRestGivesTheCoveredPartsRow : OpenClaim := { program := "qxb6617406a", sum := "42d350ae8e41b029b4b7713546cf48a7cd5b532937dca8a3260ee30b121e2eed", func := "example.com/inlay/inlay/zzlaws_internal_cover_b1.FnSubtractOfTheRestGivesTheCoveredParts", spec := "fnSubtractOfTheRestGivesTheCoveredParts", apart := false }
def FnSubtractOfTheRestGivesTheCoveredPartsSaid : Prop := fnSubtractOfTheRestGivesTheCoveredPartsRow.holds Try.pinned (OpenSpec.ofChange fnSubtractOfTheRestGivesTheCoveredPartsSpec)

/-- ITS FALSE NEIGHBOUR: 'it returns false'. Refute it at one input. -/
def fnSubtractOfTheRestGivesTheCoveredPartsWrong : ChangeSpec := { name := "fnSubtractOfTheRestGivesTheCoveredParts", fn := fun _ => fun
  | [d1, d2] => { results := [.lit (.bool false)], args := [d1, d2] }
  | _ => none }
def FnSubtractOfTheRestGivesTheCoveredPartsWrongFalsely : Prop := fnSubtractOfTheRestGivesTheCoveredPartsRow.holds Try.pinned (OpenSpec.ofChange fnSubtractOfTheRestGivesTheCoveredPartsWrong)

/-- 'zzlaws_internal_cover_b1.FnGroupIsTheFilterByOwnerInFirstSeenOrder': WHATEVER THE INPUT: true; the input reads as it did. -/
def fnGroupIsTheFilterByOwnerInFirstSeenOrderSpec : ChangeSpec := { name := "fnGroupIsTheFilterByOwnerInFirstSeenOrder", fn := fun _ => fun
  | [d] => { results := [.lit (.bool true)], args := [d] }
  | _ => none }
def fnGroupIsTheFilterByOwnerInFirstSeenOrderRow : OpenClaim := { program := "qxb6617406a", sum := "42d350ae8e41b029b4b7713546cf48a7cd5b532937dca8a3260ee30b121e2eed", func := "example.com/inlay/inlay/zzlaws_internal_cover_b1.FnGroupIsTheFilterByOwnerInFirstSeenOrder", spec := "fnGroupIsTheFilterByOwnerInFirstSeenOrder", apart := false }
def FnGroupIsTheFilterByOwnerInFirstSeenOrderSaid : Prop := fnGroupIsTheFilterByOwnerInFirstSeenOrderRow.holds Try.pinned (OpenSpec.ofChange fnGroupIsTheFilterByOwnerInFirstSeenOrderSpec)

/-- ITS FALSE NEIGHBOUR: 'it returns false'. Refute it at one input. -/
def fnGroupIsTheFilterByOwnerInFirstSeenOrderWrong : ChangeSpec := { name := "fnGroupIsTheFilterByOwnerInFirstSeenOrder", fn := fun _ => fun
  | [d] => { results := [.lit (.bool false)], args := [d] }
  | _ => none }
def FnGroupIsTheFilterByOwnerInFirstSeenOrderWrongFalsely : Prop := fnGroupIsTheFilterByOwnerInFirstSeenOrderRow.holds Try.pinned (OpenSpec.ofChange fnGroupIsTheFilterByOwnerInFirstSeenOrderWrong)

/-- 'zzlaws_internal_cover_b1.FnGroupAtAnyCut': WHATEVER THE INPUT: true; the input reads as it did. -/
def fnGroupAtAnyCutSpec : ChangeSpec := { name := "fnGroupAtAnyCut", fn := fun _ => fun
  | [d1, d2] => { results := [.lit (.bool true)], args := [d1, d2] }
  | _ => none }
def fnGroupAtAnyCutRow : OpenClaim := { program := "qxb6617406a", sum := "42d350ae8e41b029b4b7713546cf48a7cd5b532937dca8a3260ee30b121e2eed", func := "example.com/inlay/inlay/zzlaws_internal_cover_b1.FnGroupAtAnyCut", spec := "fnGroupAtAnyCut", apart := false }
def FnGroupAtAnyCutSaid : Prop := fnGroupAtAnyCutRow.holds Try.pinned (OpenSpec.ofChange fnGroupAtAnyCutSpec)

/-- ITS FALSE NEIGHBOUR: 'it returns false'. Refute it at one input. -/
def fnGroupAtAnyCutWrong : ChangeSpec := { name := "fnGroupAtAnyCut", fn := fun _ => fun
  | [d1, d2] => { results := [.lit (.bool false)], args := [d1, d2] }
  | _ => none }
def FnGroupAtAnyCutWrongFalsely : Prop := fnGroupAtAnyCutRow.holds Try.pinned (OpenSpec.ofChange fnGroupAtAnyCutWrong)

end Rows
end Go.Proofs.Qxb6617406a
