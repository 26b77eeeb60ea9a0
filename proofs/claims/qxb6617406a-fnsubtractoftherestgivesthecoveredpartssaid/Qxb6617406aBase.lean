/- Shared words for the walks over seat b6617406a: pieces in memory, rows of the call's own. -/
import Derived.Test.Qxb6617406aRows
import Derived.WalkKit
import Derived.ProofKit
import Derived.BigQuiet
import Derived.Deep.QuietTactic
import Derived.BigRegion
import Derived.Deep.RegionHeld3
import Derived.Deep.OwnRows
import Derived.Laws.Cover3
namespace Go.Proofs.Qxb6617406a
open Go.ChangeShapes Go.WideShapes Go.ChangeAt Go.RowKit

structure Pc where
  s : Int
  e : Int
  o : Int

def Pc.ok (p : Pc) : Prop := 0 ≤ p.s ∧ p.s < 18446744073709551616 ∧ 0 ≤ p.e ∧ p.e < 18446744073709551616 ∧ -9223372036854775808 ≤ p.o ∧ p.o < 9223372036854775808

/-- from offset o of block b on lie the pieces ps, three cells each -/
def At3 (w : World) (b o : Nat) (ps : List Pc) : Prop :=
  ∀ i (h : i < ps.length), w.cell? ⟨b, o + i * 3, none⟩ = some (.int .u64 ps[i].s) ∧ w.cell? ⟨b, o + i * 3 + 1, none⟩ = some (.int .u64 ps[i].e) ∧ w.cell? ⟨b, o + i * 3 + 2, none⟩ = some (.int .i64 ps[i].o)

theorem At3.of_block {w w' : World} {b o : Nat} {ps : List Pc} (h : At3 w b o ps) (hb : w'.heap[b]? = w.heap[b]?) : At3 w' b o ps := by
  intro i hi
  obtain ⟨h0, h1, h2⟩ := h i hi
  exact ⟨(World.cell?_of_block hb).trans h0, (World.cell?_of_block hb).trans h1, (World.cell?_of_block hb).trans h2⟩

theorem At3.below {w w' : World} {b o B : Nat} {ps : List Pc} (h : At3 w b o ps) (hb : Below B w w') (hlt : b < B) : At3 w' b o ps := h.of_block (hb.block b hlt)

/-- the slice at a (whatever address where it is empty) holds the pieces ps -/
def Rd (w : World) (a : Option Addr) (ps : List Pc) : Prop := ps = [] ∨ ∃ b o, a = some ⟨b, o, none⟩ ∧ b < w.heap.size ∧ At3 w b o ps

theorem Rd.below {w w' : World} {a : Option Addr} {ps : List Pc} (h : Rd w a ps) (hb : Below w.heap.size w w') : Rd w' a ps := by
  rcases h with h | ⟨b, o, h1, h2, h3⟩
  · exact .inl h
  · exact .inr ⟨b, o, h1, Nat.lt_of_lt_of_le h2 hb.size, h3.below hb h2⟩

theorem eqlNil {P : Program} {t e : TypeId} (h : P.underlying t = some (.slice e)) (a : Option Addr) (l c : Nat) (w : World) : (binOp .eql t (.slice a l c) (.slice none 0 0)).run P w = .ok (.bool a.isNone) w := by
  simp [binOp, run_equal_slice_nil w t e a l c h]

/-- block b is a row of m cells of type t, none frozen -/
def RowOf (w : World) (b : Nat) (t : TypeId) (m : Nat) : Prop := ∃ cur, w.heap[b]? = some (.cells cur t (0, 0)) ∧ cur.size = m

theorem RowOf.cell {w : World} {b t m : Nat} (h : RowOf w b t m) (j : Nat) (hj : j < m) : ∃ v, w.cell? ⟨b, j, none⟩ = some v := by
  obtain ⟨cur, h1, h2⟩ := h
  exact ⟨cur[j]'(by omega), by simp [World.cell?, h1]⟩
theorem RowOf.frozen {w : World} {b t m : Nat} (h : RowOf w b t m) (j : Nat) : w.frozen? ⟨b, j, none⟩ = false := by
  obtain ⟨cur, h1, h2⟩ := h
  simp [World.frozen?, h1]
theorem RowOf.lt {w : World} {b t m : Nat} (h : RowOf w b t m) : b < w.heap.size := by
  obtain ⟨cur, h1, h2⟩ := h
  exact (Array.getElem?_eq_some_iff.1 h1).1
theorem RowOf.of_block {w w' : World} {b t m : Nat} (h : RowOf w b t m) (hb : w'.heap[b]? = w.heap[b]?) : RowOf w' b t m := by
  obtain ⟨cur, h1, h2⟩ := h
  exact ⟨cur, hb.trans h1, h2⟩
theorem RowOf.setCell {w : World} {b t m : Nat} (h : RowOf w b t m) (j : Nat) (v : Value) : RowOf (w.setCell ⟨b, j, none⟩ v) b t m := by
  obtain ⟨cur, h1, h2⟩ := h
  refine ⟨cur.setIfInBounds j v, ?_, by simp [h2]⟩
  simp [World.setCell, Array.getElem?_modify, h1]
theorem RowOf.drew {w : World} {b t m : Nat} (h : RowOf w b t m) : RowOf w.drew b t m := h
theorem RowOf.of_owns {w : World} {base t size g n cap : Nat} {xs : List Value} (h : w.ownsRow base t size (.slice (some ⟨g, 0, none⟩) n cap) n xs) : RowOf w g t (cap * size) := by
  rcases h.2 with ⟨h, _⟩ | ⟨g', cap', cur, hv, _, hh, _, _, hs, _⟩
  · simp at h
  · simp at hv
    obtain ⟨rfl, rfl⟩ := hv
    exact ⟨cur, hh, hs⟩

theorem cell_set_other {w : World} {b j i : Nat} {v : Value} (h : j ≠ i) : (w.setCell ⟨b, j, none⟩ v).cell? ⟨b, i, none⟩ = w.cell? ⟨b, i, none⟩ :=
  World.cell?_setCell_other _ _ _ _ (fun e => h (Addr.mk.inj e).2.1)
theorem cell_set_far {w : World} {b j b' i : Nat} {v : Value} (h : b ≠ b') : (w.setCell ⟨b, j, none⟩ v).cell? ⟨b', i, none⟩ = w.cell? ⟨b', i, none⟩ :=
  World.cell?_setCell_other _ _ _ _ (fun e => h (Addr.mk.inj e).1)
theorem cell_set_same {w : World} {b j : Nat} {u v : Value} (h : w.cell? ⟨b, j, none⟩ = some u) : (w.setCell ⟨b, j, none⟩ v).cell? ⟨b, j, none⟩ = some v :=
  World.cell?_setCell_same _ _ _ h

/-- one piece more is laid at the row's next place -/
theorem At3.snoc {w : World} {B m k : Nat} {ps : List Pc} (hr : RowOf w B 34 m) (hk : k < ps.length) (hm : k * 3 + 2 < m) (h : At3 w B 0 (ps.take k)) :
    At3 ((((w.setCell ⟨B, k * 3, none⟩ (.int .u64 ps[k].s)).setCell ⟨B, k * 3 + 1, none⟩ (.int .u64 ps[k].e)).setCell ⟨B, k * 3 + 2, none⟩ (.int .i64 ps[k].o)).drew) B 0 (ps.take (k + 1)) := by
  intro i hi
  have hi' : i < k + 1 := by simp at hi; omega
  obtain ⟨u0, d0⟩ := hr.cell (k * 3) (by omega)
  obtain ⟨u1, d1⟩ := hr.cell (k * 3 + 1) (by omega)
  obtain ⟨u2, d2⟩ := hr.cell (k * 3 + 2) (by omega)
  show World.cell? (World.setCell _ _ _) _ = _ ∧ World.cell? (World.setCell _ _ _) _ = _ ∧ World.cell? (World.setCell _ _ _) _ = _
  by_cases e : i = k
  · subst e
    simp only [List.getElem_take, Nat.zero_add]
    refine ⟨?_, ?_, ?_⟩
    · rw [cell_set_other (by omega), cell_set_other (by omega)]
      exact cell_set_same d0
    · rw [cell_set_other (by omega)]
      exact cell_set_same (u := u1) ((cell_set_other (by omega)).trans d1)
    · exact cell_set_same (u := u2) ((cell_set_other (by omega)).trans ((cell_set_other (by omega)).trans d2))
  · have hik : i < k := by omega
    have hh := h i (by simp; omega)
    simp only [List.getElem_take, Nat.zero_add] at hh ⊢
    refine ⟨?_, ?_, ?_⟩ <;>
      (rw [cell_set_other (by omega), cell_set_other (by omega), cell_set_other (by omega)])
    · exact hh.1
    · exact hh.2.1
    · exact hh.2.2

theorem At3.nil (w : World) (b o : Nat) : At3 w b o [] := fun i h => absurd h (by simp)

theorem Try.info34 : (Try.prog.info? 34).map (fun i => (i.zero, i.size, i.bytes)) = some (some (.agg #[.int .u64 0, .int .u64 0, .int .i64 0]), 3, 24) := by kernel_rfl

theorem Below.to_new {w w1 : World} (h : w.grownBy w1 none) : Below w.heap.size w w1 := (Below.refl _ w).grown h (Nat.le_refl _) (fun k hk => by cases hk)
end Go.Proofs.Qxb6617406a
