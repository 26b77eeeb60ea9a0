/- 'Rows.FnTableCRCAgreesWithLongDivisionSaid', proved. -/
import Derived.Test.Qxb6617869aFn4
import Derived.OpenShut
import Derived.ChangeOld
namespace Go.Proofs.Qxb6617869a.CrcAgrees
open Go.ChangeShapes Go.WideShapes Go.ChangeAt Go.RowKit

theorem ownFree : ownKnob Try.prog.godebug = none := by kernel_rfl
theorem laidOut : laidOutB Try.prog = true := by kernel_rfl

theorem spot_of_cell {w : World} {a : Addr} {v : Value} (h : w.cell? a = some v) : a.spot = none := by
  unfold World.cell? at h
  split at h
  · split at h
    · cases h
    · rename_i hs; simpa using hs
  · cases h

theorem opened {W : World} {x : Addr} {len : Nat} {zs : List Int} (hl : len ≤ zs.length) (hc : ∀ i, i < zs.length → W.cell? (x.add i) = some (.int .u8 (zs.getD i 0))) (hw : ∀ n ∈ zs, (Lit.int .u8 n).wf = true) :
    ∃ ds : List Nat, len = ds.length ∧ Bt W (some x) ds ∧ ∀ k (h : k < ds.length), ds[k] < 256 := by
  have hb : ∀ i (h : i < zs.length), 0 ≤ zs[i] ∧ zs[i] < 256 := fun i h => by
    have h1 := bounds_u8 (hw _ (List.getElem_mem h))
    omega
  refine ⟨(zs.take len).map Int.toNat, by simp; omega, ?_, fun k h => ?_⟩
  · by_cases h0 : len = 0
    · subst h0; exact .inl rfl
    · right
      have h1 := hc 0 (by omega)
      have hs := spot_of_cell h1
      obtain ⟨b, o, s⟩ := x
      simp [Addr.add] at hs h1
      subst hs
      refine ⟨b, o, rfl, World.block_lt_of_cell? W _ h1, fun k hk => ?_⟩
      have hk' : k < zs.length := by simp at hk; omega
      have h2 := hc k hk'
      rw [List.getD_eq_getElem?_getD, List.getElem?_eq_getElem hk', Option.getD_some] at h2
      have h3 := hb k hk'
      simp only [List.getElem_map, List.getElem_take]
      rw [Int.toNat_of_nonneg h3.1]
      have h4 : (Addr.add ⟨b, o, none⟩ k) = ⟨b, o + k, none⟩ := by simp [Addr.add]
      rw [h4] at h2
      exact h2
  · have hk' : k < zs.length := by simp at h; omega
    have h3 := hb k hk'
    simp only [List.getElem_map, List.getElem_take]
    omega

set_option maxRecDepth 100000 in
theorem lifted (os : Os) (started : os.Started) (H : Type) (enc : TypeId × Value → H) :
    ReturnsInHanded {} Try.checked os 4 .any (Rows.fnTableCRCAgreesWithLongDivisionSpec.pre6 enc Try.prog Try.f4 Rows.fnTableCRCAgreesWithLongDivisionRow.domain false) (Rows.fnTableCRCAgreesWithLongDivisionSpec.post enc Try.prog Try.f4 false true false false) := by
  refine returnsInHanded_of_change (C := Try.checked) ownFree started (by kernel_rfl) Try.func4
    (ChangeSpec.witness6 (enc := enc) (C := Try.checked) false ⟨#[], #[.slice none 0 0], []⟩ 8 (by kernel_rfl) (by kernel_rfl) (by kernel_rfl) (by kernel_rfl)) ?_
  intro W base args ds gs before hval0 hW hcnd _
  have hval : ∀ (j : Nat) t v, Try.f4.params[j]? = some t → args[j]? = some v → Value.okWide Try.prog W .any base t v := hval0
  have hW' := hW
  obtain ⟨p, q, hA0, hV, rfl, hfz, hnd⟩ := hW
  have hA : DataW.TrodAll enc Try.prog W 0 (fun _ => true) true Try.f4.params.toList args.toList ds p := hA0
  rw [Try.params4] at hA hval
  obtain ⟨v0, vs0, d0, ds0, p0, q0, hargs, rfl, rfl, h0, r0⟩ := trodAll_cons hA
  obtain ⟨rfl, rfl, rfl⟩ := trodAll_nil r0
  obtain rfl : args = #[v0] := by cases args; simp_all
  obtain ⟨rfl, rfl⟩ := trodVars_none hV
  obtain ⟨a0, len0, cap0, rfl⟩ := okWide_slice Try.underlying29 (hval 0 29 v0 rfl rfl)
  have k0 := h0
  have lt0 : ∀ x ∈ p0, x.block < W.heap.size := by obtain ⟨m, hm⟩ := k0; exact DataW.trod_lt m _ _ _ hm
  obtain ⟨z0, hl0, hr0, hd0⟩ : ∃ zs : List Nat, len0 = zs.length ∧ Bt W a0 zs ∧ ∀ k (h : k < zs.length), zs[k] < 256 := by
    obtain ⟨fuel, hf⟩ := h0
    rcases open_ints Try.underlying29 Try.underlying5 (by kernel_rfl) hf with ⟨hcs, _⟩ | ⟨x, l, c, zs, hcs, _, hl, hm, hz, _, hcell, hwz⟩
    · simp [Value.cells] at hcs
      obtain ⟨rfl, rfl, rfl⟩ := hcs
      exact ⟨[], rfl, .inl rfl, fun k h => absurd h (by simp)⟩
    · simp [Value.cells] at hcs
      obtain ⟨rfl, rfl, rfl⟩ := hcs
      have hz' : zs.length = cap0 := by simpa using hz
      exact opened (by omega) hcell hwz
  clear hA0 hval0
  refine (fn4_any a0 len0 cap0 z0 W hl0 hr0 hd0).mono fun e W' ⟨he, bel⟩ => ?_
  subst he
  exact ⟨_, rfl, _, _, _, [], _, [], hW', trodAll_mk1 (shut_bool Try.underlying4 _), (trodAll_cons_mk (Below.trod laidOut (by kernel_rfl) (of_decide_eq_true (by kernel_rfl)) k0 bel lt0) trodAll_mk0), rfl, bel.frame _, fun h => by cases h⟩
end Go.Proofs.Qxb6617869a.CrcAgrees

namespace Go.Proofs.Qxb6617869a
theorem crcAgrees_proved : Rows.FnTableCRCAgreesWithLongDivisionSaid :=
  OpenClaim.holds_of_wide 4 Try.f4 rfl rfl rfl rfl rfl rfl rfl ⟨rfl, rfl, rfl, rfl, rfl⟩ rfl rfl rfl rfl rfl (by kernel_rfl) Try.func4 (by kernel_rfl)
    (of_decide_eq_true (by kernel_rfl)) (by unfold Func.isWrapper; first | (rw [if_pos (by decide +kernel)]; kernel_rfl) | (rw [if_neg (by decide +kernel)]; exact ⟨rfl, rfl⟩))
    (fun os started H enc _ => CrcAgrees.lifted os started H enc)
end Go.Proofs.Qxb6617869a
