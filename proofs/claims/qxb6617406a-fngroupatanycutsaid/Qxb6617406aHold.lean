/- Holdings in memory: a row of owners and slices of ranges, each slice a row of its own. -/
import Derived.Test.Qxb6617406aBase
import Derived.Maps.OwnSet
import Derived.Deep.AppendLies
namespace Go.Proofs.Qxb6617406a
open Go.ChangeShapes Go.WideShapes Go.ChangeAt Go.RowKit

structure Hd where
  o : Int
  rs : List (Int × Int)

def hcells : List Hd → List Value → List Value
  | h :: hs, r :: rv => .int .i64 h.o :: r :: hcells hs rv
  | _, _ => []

def rcells : List (Int × Int) → List Value
  | [] => []
  | r :: rs => .int .u64 r.1 :: .int .u64 r.2 :: rcells rs

theorem hcells_snoc : ∀ (hs : List Hd) (rv : List Value) (h : Hd) (r : Value), rv.length = hs.length → hcells (hs ++ [h]) (rv ++ [r]) = hcells hs rv ++ [.int .i64 h.o, r]
  | [], [], _, _, _ => rfl
  | [], _ :: _, _, _, e => by simp at e
  | _ :: _, [], _, _, e => by simp at e
  | a :: hs, b :: rv, h, r, e => by
    simp only [List.cons_append, hcells]
    rw [hcells_snoc hs rv h r (by simpa using e)]

theorem rcells_snoc : ∀ (rs : List (Int × Int)) (r : Int × Int), rcells (rs ++ [r]) = rcells rs ++ [.int .u64 r.1, .int .u64 r.2]
  | [], _ => rfl
  | a :: rs, r => by simp only [List.cons_append, rcells]; rw [rcells_snoc rs r]

theorem hcells_set : ∀ (hs : List Hd) (rv : List Value) (i : Nat) (r : Value), rv.length = hs.length → (hcells hs rv).set (i * 2 + 1) r = hcells hs (rv.set i r)
  | [], [], _, _, _ => by simp [hcells]
  | [], _ :: _, _, _, e => by simp at e
  | _ :: _, [], _, _, e => by simp at e
  | a :: hs, b :: rv, 0, r, _ => by simp [hcells]
  | a :: hs, b :: rv, i + 1, r, e => by
    have h2 : (i + 1) * 2 + 1 = i * 2 + 1 + 1 + 1 := by omega
    simp only [hcells, List.set_cons_succ, h2]
    rw [hcells_set hs rv i r (by simpa using e)]

theorem hcells_get : ∀ (hs : List Hd) (rv : List Value) (i : Nat) (h1 : i < hs.length) (h2 : i < rv.length), (hcells hs rv)[i * 2]? = some (.int .i64 hs[i].o) ∧ (hcells hs rv)[i * 2 + 1]? = some rv[i]
  | [], _, _, h, _ => absurd h (by simp)
  | _ :: _, [], _, _, h => absurd h (by simp)
  | a :: hs, b :: rv, 0, _, _ => by simp [hcells]
  | a :: hs, b :: rv, i + 1, h1, h2 => by
    have e1 : (i + 1) * 2 = i * 2 + 1 + 1 := by omega
    have ih := hcells_get hs rv i (by simpa using h1) (by simpa using h2)
    simp only [hcells, e1, List.getElem?_cons_succ, List.getElem_cons_succ]
    exact ih

theorem rcells_get : ∀ (rs : List (Int × Int)) (i : Nat) (h : i < rs.length), (rcells rs)[i * 2]? = some (.int .u64 rs[i].1) ∧ (rcells rs)[i * 2 + 1]? = some (.int .u64 rs[i].2)
  | [], _, h => absurd h (by simp)
  | a :: rs, 0, _ => by simp [rcells]
  | a :: rs, i + 1, h => by
    have e1 : (i + 1) * 2 = i * 2 + 1 + 1 := by omega
    have ih := rcells_get rs i (by simpa using h)
    simp only [rcells, e1, List.getElem?_cons_succ, List.getElem_cons_succ]
    exact ih

/-- one range more in the i-th holding -/
def addR (hs : List Hd) (i : Nat) (r : Int × Int) : List Hd := hs.modify i (fun h => ⟨h.o, h.rs ++ [r]⟩)

theorem addR_length (hs : List Hd) (i : Nat) (r : Int × Int) : (addR hs i r).length = hs.length := by simp [addR]
theorem addR_get (hs : List Hd) (i j : Nat) (r : Int × Int) (h : j < hs.length) (h' : j < (addR hs i r).length) : (addR hs i r)[j] = if i = j then ⟨hs[j].o, hs[j].rs ++ [r]⟩ else hs[j] := by
  simp only [addR, List.getElem_modify]
theorem addR_owner (hs : List Hd) (i j : Nat) (r : Int × Int) (h : j < hs.length) (h' : j < (addR hs i r).length) : (addR hs i r)[j].o = hs[j].o := by
  rw [addR_get hs i j r h h']; split <;> rfl

theorem hcells_owner : ∀ (hs hs' : List Hd) (rv : List Value), hs'.map (·.o) = hs.map (·.o) → hcells hs' rv = hcells hs rv
  | [], [], _, _ => rfl
  | [], _ :: _, _, e => by simp at e
  | _ :: _, [], _, e => by simp at e
  | a :: hs, b :: hs', [], _ => rfl
  | a :: hs, b :: hs', r :: rv, e => by
    simp at e
    simp only [hcells]
    rw [e.1, hcells_owner hs hs' rv e.2]

theorem addR_owners (hs : List Hd) (i : Nat) (r : Int × Int) : (addR hs i r).map (·.o) = hs.map (·.o) := by
  apply List.ext_getElem
  · simp [addR_length]
  · intro j h1 h2
    simp only [List.getElem_map]
    exact addR_owner hs i j r (by simpa using h2) (by simpa using h1)

structure Hold (w : World) (B : Nat) (v : Value) (hs : List Hd) (rv : List Value) : Prop where
  len : rv.length = hs.length
  row : w.ownsRow B 45 2 v hs.length (hcells hs rv)
  each : ∀ j (h : j < hs.length) (h' : j < rv.length), w.ownsRow B 32 2 rv[j] hs[j].rs.length (rcells hs[j].rs)
  apart : ∀ i j (hi : i < rv.length) (hj : j < rv.length), i ≠ j → rv[i].ownBlock = none ∨ rv[i].ownBlock ≠ rv[j].ownBlock

theorem Hold.start (w : World) (B : Nat) : Hold w B (.slice none 0 0) [] [] :=
  ⟨rfl, World.ownsRow_nil _ _ _ _, fun j h => absurd h (by simp), fun i j h => absurd h (by simp)⟩

/-- what another row's writes leave -/
theorem Hold.kept {w w' : World} {B : Nat} {v : Value} {hs : List Hd} {rv : List Value} {row : Option Nat} (h : Hold w B v hs rv) (hg : w.grownBy w' row) (hr : ∀ k, row = some k → k < B) : Hold w' B v hs rv := by
  refine ⟨h.len, h.row.kept hg ?_, fun j h1 h2 => (h.each j h1 h2).kept hg ?_, h.apart⟩
  · cases hv : v.ownBlock with
    | none => exact .inl rfl
    | some k => exact .inr (fun e => by have := hr k e.symm; have := (h.row.lt k hv).1; omega)
  · cases hv : (rv[j]).ownBlock with
    | none => exact .inl rfl
    | some k => exact .inr (fun e => by have := hr k e.symm; have := ((h.each j h1 h2).lt k hv).1; omega)

theorem grownBy_drew (w : World) (row : Option Nat) : w.grownBy w.drew row := ⟨rfl, rfl, rfl, Nat.le_refl _, fun _ _ _ => rfl⟩

theorem Hold.alloc {w : World} {B : Nat} {v : Value} {hs : List Hd} {rv : List Value} (h : Hold w B v hs rv) (o : Obj) : Hold (w.alloc o) B v hs rv :=
  h.kept (World.grownBy_alloc w o none) (fun k e => by cases e)
theorem Hold.drew {w : World} {B : Nat} {v : Value} {hs : List Hd} {rv : List Value} (h : Hold w B v hs rv) : Hold w.drew B v hs rv :=
  h.kept (grownBy_drew w none) (fun k e => by cases e)

/-- a block that is owned as a row of type t bears that type -/
theorem block_of_owns {w : World} {B e size : Nat} {v : Value} {n : Nat} {xs : List Value} (h : w.ownsRow B e size v n xs) {k : Nat} (hk : v.ownBlock = some k) : ∃ cur, w.heap[k]? = some (.cells cur e (0, 0)) := by
  rcases h.2 with ⟨rfl, _⟩ | ⟨g, cap, cur, rfl, _, hh, _⟩
  · simp [Value.ownBlock] at hk
  · simp [Value.ownBlock] at hk
    subst hk
    exact ⟨cur, hh⟩

theorem apart_types {w : World} {B e e' size size' : Nat} {v v' : Value} {n n' : Nat} {xs xs' : List Value} (h : w.ownsRow B e size v n xs) (h' : w.ownsRow B e' size' v' n' xs') (hne : e ≠ e') :
    v.ownBlock = none ∨ v.ownBlock ≠ v'.ownBlock := by
  cases hv : v.ownBlock with
  | none => exact .inl rfl
  | some k =>
    right
    intro e2
    obtain ⟨c1, h1⟩ := block_of_owns h hv
    obtain ⟨c2, h2⟩ := block_of_owns h' e2.symm
    rw [h1] at h2
    simp at h2
    exact hne h2.2

/-- a new holding, its ranges still nil -/
theorem Hold.push {w w1 : World} {B : Nat} {v v' : Value} {hs : List Hd} {rv : List Value} (h : Hold w B v hs rv) (o : Int)
    (hown : w1.ownsRow B 45 2 v' (hs.length + 1) (hcells hs rv ++ [.int .i64 o, .slice none 0 0])) (hg : w.grownBy w1 v.ownBlock) : Hold w1 B v' (hs ++ [⟨o, []⟩]) (rv ++ [.slice none 0 0]) := by
  have hl := h.len
  refine ⟨by simp [h.len], ?_, ?_, ?_⟩
  · rw [hcells_snoc hs rv _ _ h.len]
    simpa using hown
  · intro j h1 h2
    by_cases hj : j < hs.length
    · rw [List.getElem_append_left (by omega), List.getElem_append_left hj]
      exact (h.each j hj (by omega)).kept hg (apart_types (h.each j hj (by omega)) h.row (by decide))
    · have e : j = hs.length := by simp at h1; omega
      subst e
      rw [List.getElem_append_right (by omega), List.getElem_append_right (by omega)]
      simp only [hl, Nat.sub_self, List.getElem_singleton]
      exact World.ownsRow_nil _ _ _ _
  · intro i j hi hj hne
    simp at hi hj
    by_cases h1 : i < rv.length
    · rw [List.getElem_append_left h1]
      by_cases h2 : j < rv.length
      · rw [List.getElem_append_left h2]
        exact h.apart i j h1 h2 hne
      · rw [List.getElem_append_right (by omega)]
        simp only [List.getElem_singleton]
        exact Classical.em _
    · rw [List.getElem_append_right (by omega)]
      simp only [List.getElem_singleton, Value.ownBlock]
      simp

/-- one range more, appended to the i-th holding's slice, which is stored back -/
theorem Hold.add {w w1 : World} {B g cap i g' cap' : Nat} {hs : List Hd} {rv : List Value} (h : Hold w B (.slice (some ⟨g, 0, none⟩) hs.length cap) hs rv) (hi : i < hs.length) (hi' : i < rv.length) (r : Int × Int)
    (hown : w1.ownsRow B 32 2 (.slice (some ⟨g', 0, none⟩) (hs[i].rs.length + 1) cap') (hs[i].rs.length + 1) (rcells hs[i].rs ++ [.int .u64 r.1, .int .u64 r.2])) (hg : w.grownBy w1 (rv[i]).ownBlock)
    (hat : (rv[i]).ownBlock = some g' ∨ g' = w.heap.size) :
    Hold (w1.setCell ⟨g, i * 2 + 1, none⟩ (.slice (some ⟨g', 0, none⟩) (hs[i].rs.length + 1) cap')) B (.slice (some ⟨g, 0, none⟩) hs.length cap) (addR hs i r) (rv.set i (.slice (some ⟨g', 0, none⟩) (hs[i].rs.length + 1) cap')) := by
  have hl := h.len
  have hgb : g < w.heap.size := (h.row.lt g rfl).2
  have hrow1 := h.row.kept hg (.inr (fun e => by
    rcases apart_types (h.each i hi hi') h.row (by decide) with h0 | h0
    · rw [h0] at e; simp [Value.ownBlock] at e
    · exact h0 e.symm))
  have hgg' : g' ≠ g := by
    rcases apart_types hown hrow1 (by decide) with h0 | h0
    · simp [Value.ownBlock] at h0
    · intro e; subst e; exact h0 rfl
  have far : ∀ {e size : Nat} {u : Value} {n : Nat} {xs : List Value}, w1.ownsRow B e size u n xs → e ≠ 45 → (w1.setCell ⟨g, i * 2 + 1, none⟩ (.slice (some ⟨g', 0, none⟩) (hs[i].rs.length + 1) cap')).ownsRow B e size u n xs := by
    intro e size u n xs hu hne
    refine hu.kept (row := some g) ⟨rfl, rfl, rfl, by simp [World.setCell], fun k hk hkg => Below.heap_setCell _ _ _ _ (fun e => hkg (by rw [e]))⟩ ?_
    rcases apart_types hu hrow1 hne with h0 | h0
    · exact .inl h0
    · exact .inr h0
  refine ⟨by simp [addR_length, h.len], ?_, ?_, ?_⟩
  · have := hrow1.stored (i * 2 + 1) (.slice (some ⟨g', 0, none⟩) (hs[i].rs.length + 1) cap')
    rw [hcells_set hs rv i _ h.len] at this
    rw [addR_length, hcells_owner hs (addR hs i r) _ (addR_owners hs i r)]
    exact this.1
  · intro j h1 h2
    have hj : j < hs.length := by simpa [addR_length] using h1
    have hj' : j < rv.length := by omega
    rw [addR_get hs i j r hj h1]
    by_cases e : i = j
    · subst e
      simp only [if_true, List.getElem_set_self, List.length_append, List.length_cons, List.length_nil, rcells_snoc]
      exact far hown (by decide)
    · simp only [if_neg e, List.getElem_set_ne e]
      exact far ((h.each j hj hj').kept hg (h.apart j i hj' hi' (Ne.symm e))) (by decide)
  · intro a b ha hb hne
    have ha' : a < rv.length := by simpa using ha
    have hb' : b < rv.length := by simpa using hb
    by_cases e1 : i = a
    · subst e1
      rw [List.getElem_set_self, List.getElem_set_ne hne]
      right
      rcases hat with h0 | h0
      · rcases h.apart i b hi' hb' hne with h3 | h3
        · rw [h3] at h0; cases h0
        · rw [h0] at h3; exact h3
      · intro e
        have := ((h.each b (by omega) hb').lt g' e.symm).2
        omega
    · rw [List.getElem_set_ne e1]
      by_cases e2 : i = b
      · subst e2
        rw [List.getElem_set_self]
        rcases h.apart a i ha' hi' hne with h3 | h3
        · exact .inl h3
        · rcases hat with h0 | h0
          · rw [h0] at h3; exact .inr h3
          · right
            intro e
            have := ((h.each a (by omega) ha').lt g' e).2
            omega
      · rw [List.getElem_set_ne e2]
        exact h.apart a b ha' hb' hne
end Go.Proofs.Qxb6617406a
