/- Holdings as they are read: cells by index. -/
import Derived.Test.Qxb6617406aConcat
import Derived.Test.Qxb6617406aGroupLaw
import Derived.Deep.Slices
namespace Go.Proofs.Qxb6617406a
open Go.ChangeShapes Go.WideShapes Go.ChangeAt Go.RowKit

theorem rs_pos {ps : List Pc} {hs : List Hd} (g : Good ps ps.length hs) (i : Nat) (h : i < hs.length) : 0 < hs[i].rs.length := by
  have h1 := own_at ps hs[i].o (fi ps hs[i].o) (g.lt i h) (fi_at ps _ (g.lt i h))
  rw [g.rs i h]
  rcases Nat.eq_zero_or_pos (own ps hs[i].o ps.length).length with h0 | h0
  · rw [List.eq_nil_of_length_eq_zero h0] at h1; simp at h1
  · exact h0

theorem rs_le (hs : List Hd) (i : Nat) (h : i < hs.length) : hs[i].rs.length ≤ tot hs := by
  have h1 := tot_take hs i h
  have h2 := tot_le hs (i + 1)
  omega

def HAt (w : World) (g : Nat) (q c : Nat → Nat) (hs : List Hd) : Prop :=
  ∀ i (h : i < hs.length), w.cell? ⟨g, i * 2, none⟩ = some (.int .i64 hs[i].o) ∧ w.cell? ⟨g, i * 2 + 1, none⟩ = some (.slice (some ⟨q i, 0, none⟩) hs[i].rs.length (c i)) ∧ RAt w (q i) hs[i].rs

theorem Hold.below {w w' : World} {B : Nat} {v : Value} {hs : List Hd} {rv : List Value} (h : Hold w B v hs rv) (hb : Below w.heap.size w w') : Hold w' B v hs rv :=
  h.kept (row := none) ⟨hb.os, hb.tape, hb.output, hb.size, fun k hk _ => hb.block k hk⟩ (fun k e => by cases e)

theorem hat_of_hold {w : World} {B : Nat} {ga : Option Addr} {gc : Nat} {hs : List Hd} {rv : List Value} (h : Hold w B (.slice ga hs.length gc) hs rv) (hp : ∀ i (hi : i < hs.length), 0 < hs[i].rs.length) :
    ∃ g q c, (0 < hs.length → ga = some ⟨g, 0, none⟩) ∧ HAt w g q c hs := by
  have hl := h.len
  obtain ⟨f, hf⟩ := @Go.Deep.choose_lt (Nat × Nat) ⟨(0, 0)⟩ hs.length (fun i p => ∀ (h1 : i < hs.length) (h2 : i < rv.length), rv[i] = .slice (some ⟨p.1, 0, none⟩) hs[i].rs.length p.2) (fun i hi => by
    obtain ⟨g, cap, e, _⟩ := (h.each i hi (by omega)).form (hp i hi)
    exact ⟨(g, cap), fun _ _ => e⟩)
  by_cases h0 : 0 < hs.length
  · obtain ⟨g, cap, hv, _, _⟩ := h.row.form h0
    simp at hv
    obtain ⟨rfl, rfl⟩ := hv
    refine ⟨g, fun i => (f i).1, fun i => (f i).2, fun _ => rfl, fun i hi => ?_⟩
    have hc := hcells_get hs rv i hi (by omega)
    have he := h.each i hi (by omega)
    rw [hf i hi hi (by omega)] at hc he
    rw [h.row.cellAt (i * 2) (by omega), h.row.cellAt (i * 2 + 1) (by omega)]
    exact ⟨hc.1, hc.2, rat_of_owns he rfl⟩
  · exact ⟨0, fun _ => 0, fun _ => 0, fun h => absurd h h0, fun i hi => absurd hi (by omega)⟩

theorem Rd.take {w : World} {b n : Nat} {ps : List Pc} (h : At3 w b 0 ps) (hb : b < w.heap.size) (_ : n ≤ ps.length) : Rd w (some ⟨b, 0, none⟩) (ps.take n) := by
  refine .inr ⟨b, 0, rfl, hb, fun i hi => ?_⟩
  have := h i (by simp at hi; omega)
  simpa using this

theorem At3.drop {w : World} {b n : Nat} {ps : List Pc} (h : At3 w b 0 ps) : At3 w b (n * 3) (ps.drop n) := by
  intro i hi
  have := h (n + i) (by simp at hi; omega)
  simp only [List.getElem_drop]
  rw [show 0 + (n + i) * 3 = n * 3 + i * 3 by omega] at this
  exact this
end Go.Proofs.Qxb6617406a
