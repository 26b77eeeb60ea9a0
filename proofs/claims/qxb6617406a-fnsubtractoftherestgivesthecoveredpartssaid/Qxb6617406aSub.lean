/- Subtract as a plain function; the pieces that are gathered, in memory. -/
import Derived.Test.Qxb6617406aBase
import Derived.Deep.AppendLies
namespace Go.Proofs.Qxb6617406a
open Go.ChangeShapes Go.WideShapes Go.ChangeAt Go.RowKit

/-- what is left of p from 'a' on, when the pieces of R are taken away -/
def cutP (p : Pc) : Int → List Pc → List Pc
  | a, [] => if a < p.e then [⟨a, p.e, p.o⟩] else []
  | a, m :: R => if m.s < p.e then (if a < m.s then [⟨a, m.s, p.o⟩] else []) ++ cutP p m.e R else if a < p.e then [⟨a, p.e, p.o⟩] else []

def subt : List Pc → List Pc → List Pc
  | [], _ => []
  | p :: ps, R => cutP p p.s (R.dropWhile (fun m => decide (m.e ≤ p.s))) ++ subt ps (R.dropWhile (fun m => decide (m.e ≤ p.s)))

theorem cutP_len (p : Pc) : ∀ (R : List Pc) (a : Int), (cutP p a R).length ≤ R.length + 1
  | [], a => by unfold cutP; split <;> simp
  | m :: R, a => by
    unfold cutP
    have := cutP_len p R m.e
    split
    · rw [List.length_append, List.length_cons]
      split <;> simp <;> omega
    · split <;> simp

theorem dropWhile_len {α : Type} (q : α → Bool) : ∀ (l : List α), (l.dropWhile q).length ≤ l.length
  | [] => by simp
  | a :: l => by
    rw [List.dropWhile_cons]
    have := dropWhile_len q l
    split
    · simp; omega
    · simp

theorem subt_len : ∀ (ps R : List Pc) (k : Nat), R.length + 1 ≤ k → (subt ps R).length ≤ ps.length * k
  | [], _, _, _ => by simp [subt]
  | p :: ps, R, k, h => by
    simp only [subt, List.length_append, List.length_cons, Nat.add_mul, Nat.one_mul]
    have h1 := cutP_len p (R.dropWhile (fun m => decide (m.e ≤ p.s))) p.s
    have h2 := dropWhile_len (fun m => decide (m.e ≤ p.s)) R
    have h3 := subt_len ps (R.dropWhile (fun m => decide (m.e ≤ p.s))) k (by omega)
    omega

def pcells : List Pc → List Value
  | [] => []
  | p :: ps => .int .u64 p.s :: .int .u64 p.e :: .int .i64 p.o :: pcells ps

theorem pcells_snoc : ∀ (ps : List Pc) (p : Pc), pcells (ps ++ [p]) = pcells ps ++ [.int .u64 p.s, .int .u64 p.e, .int .i64 p.o]
  | [], _ => rfl
  | a :: ps, p => by simp only [List.cons_append, pcells]; rw [pcells_snoc ps p]

theorem pcells_get : ∀ (ps : List Pc) (i : Nat) (h : i < ps.length), (pcells ps)[i * 3]? = some (.int .u64 ps[i].s) ∧ (pcells ps)[i * 3 + 1]? = some (.int .u64 ps[i].e) ∧ (pcells ps)[i * 3 + 2]? = some (.int .i64 ps[i].o)
  | [], _, h => absurd h (by simp)
  | a :: ps, 0, _ => by simp [pcells]
  | a :: ps, i + 1, h => by
    have e1 : (i + 1) * 3 = i * 3 + 1 + 1 + 1 := by omega
    have ih := pcells_get ps i (by simpa using h)
    simp only [pcells, e1, List.getElem?_cons_succ, List.getElem_cons_succ]
    exact ih

theorem at3_of_owns {w : World} {B g n cap : Nat} {ps : List Pc} (h : w.ownsRow B 34 3 (.slice (some ⟨g, 0, none⟩) n cap) n (pcells ps)) (hn : n = ps.length) : At3 w g 0 ps := by
  intro i hi
  have := pcells_get ps i hi
  rw [Nat.zero_add, h.cellAt (i * 3) (by omega), h.cellAt (i * 3 + 1) (by omega), h.cellAt (i * 3 + 2) (by omega)]
  exact this

theorem rd_of_owns {w : World} {B n cap : Nat} {ga : Option Addr} {ps : List Pc} (h : w.ownsRow B 34 3 (.slice ga n cap) n (pcells ps)) (hn : n = ps.length) : Rd w ga ps := by
  by_cases h0 : 0 < n
  · obtain ⟨g, cap', hv, _, hlt⟩ := h.form h0
    simp at hv
    obtain ⟨rfl, rfl⟩ := hv
    exact .inr ⟨g, 0, rfl, hlt, at3_of_owns h hn⟩
  · exact .inl (List.eq_nil_of_length_eq_zero (by omega))

/-- the three cells of a block -/
def Trio (w : World) (P : Nat) (p : Pc) : Prop := w.cell? ⟨P, 0, none⟩ = some (.int .u64 p.s) ∧ w.cell? ⟨P, 1, none⟩ = some (.int .u64 p.e) ∧ w.cell? ⟨P, 2, none⟩ = some (.int .i64 p.o)
theorem trio_new (w : World) (p : Pc) (t : TypeId) : Trio (w.alloc (.cells #[.int .u64 p.s, .int .u64 p.e, .int .i64 p.o] t)) w.heap.size p := by
  refine ⟨?_, ?_, ?_⟩ <;> simp
theorem Trio.of_block {w w' : World} {P : Nat} {p : Pc} (h : Trio w P p) (hb : w'.heap[P]? = w.heap[P]?) : Trio w' P p :=
  ⟨(World.cell?_of_block hb).trans h.1, (World.cell?_of_block hb).trans h.2.1, (World.cell?_of_block hb).trans h.2.2⟩

/-- what has been gathered, beside the piece that is being cut -/
structure Out (w wr : World) (P : Nat) (p : Pc) (v : Value) (O : List Pc) : Prop where
  own : wr.ownsRow w.heap.size 34 3 v O.length (pcells O)
  bel : Below w.heap.size w wr
  trio : Trio wr P p
  lt : P < wr.heap.size
  ge : w.heap.size ≤ P
  ne : v.ownBlock ≠ some P

theorem Out.drewN {w wr : World} {P : Nat} {p : Pc} {v : Value} {O : List Pc} (h : Out w wr P p v O) (n : Nat) : Out w (wr.drewN n) P p v O :=
  ⟨h.own.kept (row := none) ⟨rfl, rfl, rfl, Nat.le_refl _, fun _ _ _ => rfl⟩ (by cases v.ownBlock <;> simp), h.bel.trans ⟨rfl, rfl, rfl, Nat.le_refl _, fun _ _ => rfl⟩, h.trio.of_block rfl, h.lt, h.ge, h.ne⟩

theorem Out.app {w wr w1 : World} {P : Nat} {p : Pc} {v : Value} {O : List Pc} (h : Out w wr P p v O) (ob : Obj) (x : Pc) {g cap : Nat}
    (hown : w1.ownsRow w.heap.size 34 3 (.slice (some ⟨g, 0, none⟩) (O.length + 1) cap) (O.length + 1) (pcells O ++ [.int .u64 x.s, .int .u64 x.e, .int .i64 x.o]))
    (hg : (wr.alloc ob).grownBy w1 v.ownBlock) (hat : v.ownBlock = some g ∨ g = wr.heap.size + 1) : Out w w1 P p (.slice (some ⟨g, 0, none⟩) (O ++ [x]).length cap) (O ++ [x]) := by
  have hrl := h.own.lt
  have hs := h.bel.size
  have hlt := h.lt
  have hP : w1.heap[P]? = wr.heap[P]? := (hg.block P (by simp; omega) (fun e => h.ne e.symm)).trans (Below.heap_alloc wr ob P hlt)
  refine ⟨by rw [pcells_snoc]; simpa using hown, ?_, h.trio.of_block hP, ?_, h.ge, ?_⟩
  · refine (h.bel.alloc hs ob).grown hg (by simp; omega) (fun k hk => ?_)
    exact (hrl k hk).1
  · have := hg.size; simp at this; omega
  · intro e
    simp [Value.ownBlock] at e
    subst e
    rcases hat with e | e
    · exact h.ne e
    · omega
end Go.Proofs.Qxb6617406a
