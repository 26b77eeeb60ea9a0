/- 'Rows.FnTableIsRemainderOfByteTimesX16Said', proved. -/
import Derived.Test.Qxb6617869aFn3
import Derived.ChangeOld
namespace Go.Proofs.Qxb6617869a.TableIs
open Go.ChangeShapes Go.WideShapes Go.ChangeAt Go.RowKit

theorem ownFree : ownKnob Try.prog.godebug = none := by kernel_rfl

set_option maxRecDepth 100000 in
theorem lifted (os : Os) (started : os.Started) (H : Type) (enc : TypeId × Value → H) :
    ReturnsInHanded {} Try.checked os 3 .any (Rows.fnTableIsRemainderOfByteTimesX16Spec.pre6 enc Try.prog Try.f3 Rows.fnTableIsRemainderOfByteTimesX16Row.domain false) (Rows.fnTableIsRemainderOfByteTimesX16Spec.post enc Try.prog Try.f3 false true false false) := by
  refine returnsInHanded_of_change (C := Try.checked) ownFree started (by kernel_rfl) Try.func3
    (ChangeSpec.witness6 (enc := enc) (C := Try.checked) false ⟨#[], #[], []⟩ 8 (by kernel_rfl) (by kernel_rfl) (by kernel_rfl) (by kernel_rfl)) ?_
  intro W base args ds gs before hval0 hW hcnd _
  have hval : ∀ (j : Nat) t v, Try.f3.params[j]? = some t → args[j]? = some v → Value.okWide Try.prog W .any base t v := hval0
  have hW' := hW
  obtain ⟨p, q, hA0, hV, rfl, hfz, hnd⟩ := hW
  have hA : DataW.TrodAll enc Try.prog W 0 (fun _ => true) true Try.f3.params.toList args.toList ds p := hA0
  rw [Try.params3] at hA hval
  obtain ⟨rfl, rfl, rfl⟩ := trodAll_none hA
  obtain ⟨rfl, rfl⟩ := trodVars_none hV
  clear hA0 hval0
  refine (fn3_any W).mono fun e W' ⟨he, bel⟩ => ?_
  subst he
  exact ⟨_, rfl, _, _, _, [], [], [], hW', trodAll_mk1 (shut_bool Try.underlying4 _), trodAll_mk0, rfl, bel.frame _, fun h => by cases h⟩
end Go.Proofs.Qxb6617869a.TableIs

namespace Go.Proofs.Qxb6617869a
theorem tableIs_proved : Rows.FnTableIsRemainderOfByteTimesX16Said :=
  OpenClaim.holds_of_wide 3 Try.f3 rfl rfl rfl rfl rfl rfl rfl ⟨rfl, rfl, rfl, rfl, rfl⟩ rfl rfl rfl rfl rfl (by kernel_rfl) Try.func3 (by kernel_rfl)
    (of_decide_eq_true (by kernel_rfl)) (by unfold Func.isWrapper; first | (rw [if_pos (by decide +kernel)]; kernel_rfl) | (rw [if_neg (by decide +kernel)]; exact ⟨rfl, rfl⟩))
    (fun os started H enc _ => TableIs.lifted os started H enc)
end Go.Proofs.Qxb6617869a
