/- A slice of pieces that came in, opened. -/
import Derived.Test.Qxb6617406aBase
import Derived.Deep.Slices
import Derived.Deep.Strs
import Derived.OpenShut
import Derived.ShutString
import Derived.ChangeOld
namespace Go.Proofs.Qxb6617406a
open Go.ChangeShapes Go.WideShapes Go.ChangeAt Go.RowKit Go.Deep

theorem ownFree : ownKnob Try.prog.godebug = none := by kernel_rfl
theorem laidOut : laidOutB Try.prog = true := by kernel_rfl
theorem Try.cells30 : Try.prog.cellsOf 30 = 3 := by kernel_rfl
theorem Try.cells28 : Try.prog.cellsOf 28 = 1 := by kernel_rfl
theorem Try.cells3 : Try.prog.cellsOf 3 = 1 := by kernel_rfl

theorem spot_of_cell {w : World} {a : Addr} {v : Value} (h : w.cell? a = some v) : a.spot = none := by
  unfold World.cell? at h
  split at h
  · split at h
    · cases h
    · rename_i hs; simpa using hs
  · cases h

theorem open_pieces {H : Type} {enc : TypeId × Value → H} {W : World} {base : Nat} {sp : Nat → Bool} {held : Bool} {fuel : Nat} {a0 : Option Addr} {len cap : Nat} {x : DataW H × List MemPlace}
    (h : DataW.trod enc Try.prog W base sp held fuel 22 [.slice a0 len cap] = some x) :
    len ≤ maxLen ∧ ∃ ps : List Pc, ps.length = len ∧ Rd W a0 ps ∧ ∀ i (hi : i < ps.length), ps[i].ok := by
  rcases open_slice Try.underlying22 h with ⟨hcs, _⟩ | ⟨a, len', cap', m, n, D, Pl, hcs, _, hl, hm, hmm, _, hx⟩
  · simp at hcs
    obtain ⟨rfl, rfl, rfl⟩ := hcs
    exact ⟨Nat.zero_le _, [], rfl, .inl rfl, fun i hi => absurd hi (by simp)⟩
  simp at hcs
  obtain ⟨rfl, rfl, rfl⟩ := hcs
  have hlm : len ≤ m := by rw [hmm]; split <;> omega
  refine ⟨Nat.le_trans hl hm, ?_⟩
  obtain ⟨q, hq⟩ := @choose_lt Pc ⟨⟨0, 0, 0⟩⟩ len (fun i p => p.ok ∧ W.cell? (a.add (i * 3)) = some (.int .u64 p.s) ∧ W.cell? (a.add (i * 3 + 1)) = some (.int .u64 p.e) ∧ W.cell? (a.add (i * 3 + 2)) = some (.int .i64 p.o)) (by
    intro i hi
    obtain ⟨cs', h1, h2⟩ := hx i (by omega)
    rw [Try.cells30] at h1
    obtain ⟨_, hlen, hcell⟩ := World.cells?_some h1
    obtain ⟨y0, y1, y2, k, _, _, g0, g1, g2⟩ := trod_struct3 Try.underlying30 h2
    match cs', hlen with
    | [v0, v1, v2], _ =>
      simp [Try.cells28, Try.cells3] at g0 g1 g2
      obtain ⟨s, e0, _, w0⟩ := DataW.trod_int Try.underlying28 g0
      obtain ⟨e, e1, _, w1⟩ := DataW.trod_int Try.underlying28 g1
      obtain ⟨o, e2, _, w2⟩ := DataW.trod_int Try.underlying3 g2
      simp at e0 e1 e2
      subst e0 e1 e2
      have b0 := bounds_u64 w0
      have b1 := bounds_u64 w1
      have b2 := bounds_i64 w2
      have c0 := hcell 0 (by omega)
      have c1 := hcell 1 (by omega)
      have c2 := hcell 2 (by omega)
      rw [add_add] at c0 c1 c2
      refine ⟨⟨s, e, o⟩, ?_, by simpa using c0, by simpa using c1, by simpa using c2⟩
      unfold Pc.ok
      simp only
      omega)
  refine ⟨(List.range len).map q, by simp, ?_, ?_⟩
  · by_cases h0 : len = 0
    · subst h0; exact .inl rfl
    · right
      have h1 := (hq 0 (by omega)).2.1
      have hs := spot_of_cell h1
      obtain ⟨b, o, s⟩ := a
      simp [Addr.add] at hs h1
      subst hs
      refine ⟨b, o, rfl, World.block_lt_of_cell? W _ h1, fun i hi => ?_⟩
      have hi' : i < len := by simpa using hi
      have hc := (hq i hi').2
      simp only [add_plain] at hc
      simp only [List.getElem_map, List.getElem_range]
      rw [← Nat.add_assoc, ← Nat.add_assoc] at hc
      exact hc
  · intro i hi
    simp only [List.getElem_map, List.getElem_range]
    exact (hq i (by simpa using hi)).1
end Go.Proofs.Qxb6617406a
