/- Group as a plain function; the index map tied to the holdings. -/
import Derived.Test.Qxb6617406aHold
namespace Go.Proofs.Qxb6617406a
open Go.ChangeShapes Go.WideShapes Go.ChangeAt Go.RowKit

def pos (hs : List Hd) (o : Int) : Nat := hs.findIdx (fun h => h.o == o)

def addP (hs : List Hd) (p : Pc) : List Hd :=
  if pos hs p.o < hs.length then addR hs (pos hs p.o) (p.s, p.e) else addR (hs ++ [⟨p.o, []⟩]) hs.length (p.s, p.e)

def group (ps : List Pc) : List Hd := ps.foldl addP []

theorem group_snoc (ps : List Pc) (p : Pc) : group (ps ++ [p]) = addP (group ps) p := by simp [group, List.foldl_append]

theorem group_take (ps : List Pc) (k : Nat) (h : k < ps.length) : group (ps.take (k + 1)) = addP (group (ps.take k)) ps[k] := by
  rw [List.take_succ_eq_append_getElem h, group_snoc]

theorem pos_le (hs : List Hd) (o : Int) : pos hs o ≤ hs.length := List.findIdx_le_length
theorem pos_owner (hs : List Hd) (o : Int) (h : pos hs o < hs.length) : hs[pos hs o].o = o := by
  have := List.findIdx_getElem (p := fun h : Hd => h.o == o) (xs := hs) (w := h)
  exact eq_of_beq this
theorem pos_absent (hs : List Hd) (o : Int) (h : ¬ pos hs o < hs.length) : ∀ j (hj : j < hs.length), hs[j].o ≠ o := by
  intro j hj e
  apply h
  exact List.findIdx_lt_length_of_exists ⟨hs[j], List.getElem_mem hj, by simp [e]⟩

theorem addP_length (hs : List Hd) (p : Pc) : (addP hs p).length ≤ hs.length + 1 := by
  unfold addP; split <;> simp [addR_length]

theorem rs_addR (hs : List Hd) (i : Nat) (r : Int × Int) (m : Nat) (h : ∀ j (hj : j < hs.length), hs[j].rs.length ≤ m) : ∀ j (hj : j < (addR hs i r).length), (addR hs i r)[j].rs.length ≤ m + 1 := by
  intro j hj
  have hj' : j < hs.length := by simpa [addR_length] using hj
  rw [addR_get hs i j r hj' hj]
  have := h j hj'
  split <;> simp <;> omega

theorem rs_addP (hs : List Hd) (p : Pc) (m : Nat) (h : ∀ j (hj : j < hs.length), hs[j].rs.length ≤ m) : ∀ j (hj : j < (addP hs p).length), (addP hs p)[j].rs.length ≤ m + 1 := by
  unfold addP
  split
  · exact rs_addR _ _ _ _ h
  · refine rs_addR _ _ _ _ ?_
    intro j hj
    by_cases h1 : j < hs.length
    · rw [List.getElem_append_left h1]; exact h j h1
    · rw [List.getElem_append_right (by omega)]; simp

theorem group_len (ps : List Pc) : ∀ k, k ≤ ps.length → (group (ps.take k)).length ≤ k
  | 0, _ => by simp [group]
  | k + 1, h => by
    rw [group_take ps k (by omega)]
    have := group_len ps k (by omega)
    have := addP_length (group (ps.take k)) ps[k]
    omega

theorem group_rs (ps : List Pc) : ∀ k, k ≤ ps.length → ∀ j (hj : j < (group (ps.take k)).length), (group (ps.take k))[j].rs.length ≤ k
  | 0, _ => by simp [group]
  | k + 1, h => by
    rw [group_take ps k (by omega)]
    exact rs_addP _ _ _ (group_rs ps k (by omega))

/-- block M is the map from each owner to its place among the holdings -/
def Tie (D : DataW Unit) (hs : List Hd) : Prop :=
  (∀ o, (∀ j (h : j < hs.length), hs[j].o ≠ o) → Maps.has D (.int .i64 o) = false) ∧ ∀ j (h : j < hs.length), Maps.has D (.int .i64 hs[j].o) = true ∧ ∀ z, D.atKey (.int .i64 hs[j].o) z = .lit (.int .i64 j)

def MapIs (w : World) (M : Nat) (hs : List Hd) : Prop := ∃ D : DataW Unit, w.ownsMap Try.prog 3 (plainElem Try.prog 3) M hs.length D ∧ Tie D hs

theorem law3 : Maps.Keyed Try.prog 3 := Maps.int_keyed Try.underlying3
theorem zero3 (w : World) : (zeroValue 3).run Try.prog w = .ok (.int .i64 0) w := by kernel_rfl

theorem tie_nil : Tie (.map []) [] := ⟨fun o _ => rfl, fun j h => absurd h (by simp)⟩

theorem MapIs.kept {w w' : World} {M : Nat} {hs : List Hd} {row : Option Nat} (h : MapIs w M hs) (hg : w.grownBy w' row) (hr : some M ≠ row) : MapIs w' M hs := by
  obtain ⟨D, h1, h2⟩ := h
  exact ⟨D, h1.kept hg hr, h2⟩
theorem MapIs.alloc {w : World} {M : Nat} {hs : List Hd} (h : MapIs w M hs) (o : Obj) : MapIs (w.alloc o) M hs := h.kept (World.grownBy_alloc w o none) (by simp)
theorem MapIs.lt {w : World} {M : Nat} {hs : List Hd} (h : MapIs w M hs) : M < w.heap.size := by
  obtain ⟨D, h1, h2⟩ := h
  exact h1.lt
theorem MapIs.set {w : World} {M : Nat} {hs : List Hd} (h : MapIs w M hs) (g j : Nat) (v : Value) (hne : M ≠ g) : MapIs (w.setCell ⟨g, j, none⟩ v) M hs := by
  obtain ⟨D, h1, h2⟩ := h
  exact ⟨D, h1.setCell hne v, h2⟩

theorem tie_owner {D : DataW Unit} {hs hs' : List Hd} (h : Tie D hs) (e : hs'.map (·.o) = hs.map (·.o)) : Tie D hs' := by
  have hl : hs'.length = hs.length := by simpa using congrArg List.length e
  have ho : ∀ j (h1 : j < hs'.length) (h2 : j < hs.length), hs'[j].o = hs[j].o := by
    intro j h1 h2
    have := List.getElem_of_eq e (i := j) (by simpa using h1)
    simpa using this
  refine ⟨fun o h1 => h.1 o (fun j hj => by rw [← ho j (by omega) hj]; exact h1 j (by omega)), fun j hj => ?_⟩
  rw [ho j hj (by omega)]
  exact h.2 j (by omega)

theorem MapIs.owner {w : World} {M : Nat} {hs hs' : List Hd} (h : MapIs w M hs) (e : hs'.map (·.o) = hs.map (·.o)) : MapIs w M hs' := by
  obtain ⟨D, h1, h2⟩ := h
  have hl : hs'.length = hs.length := by simpa using congrArg List.length e
  exact ⟨D, by rw [hl]; exact h1, tie_owner h2 e⟩

theorem tie_put {D : DataW Unit} {hs : List Hd} (h : Tie D hs) (hm : Maps.IsMap D) (o : Int) (ho : ∀ j (h : j < hs.length), hs[j].o ≠ o) : Tie (D.put (.int .i64 o) (.lit (.int .i64 hs.length))) (hs ++ [⟨o, []⟩]) := by
  have ne : ∀ a b : Int, a ≠ b → Lit.int .i64 a ≠ Lit.int .i64 b := fun a b h e => h (by simpa using e)
  refine ⟨fun a ha => ?_, fun j hj => ?_⟩
  · have h1 : a ≠ o := fun e => by
      have := ha hs.length (by simp)
      simp at this
      exact this e.symm
    rw [Maps.has_put_other (ne _ _ h1)]
    refine h.1 a (fun j hj => ?_)
    have := ha j (by simp; omega)
    rwa [List.getElem_append_left hj] at this
  · by_cases e : j < hs.length
    · rw [List.getElem_append_left e]
      have h2 := h.2 j e
      rw [Maps.has_put_other (ne _ _ (ho j e))]
      refine ⟨h2.1, fun z => ?_⟩
      rw [Maps.atKey_put_other (ne _ _ (ho j e))]
      exact h2.2 z
    · have : j = hs.length := by simp at hj; omega
      subst this
      rw [List.getElem_append_right (by omega)]
      simp only [Nat.sub_self, List.getElem_singleton]
      have hk : WideAt.IsKeyLit (.int .i64 o) := trivial
      exact ⟨Maps.has_put_same hm hk _, fun z => Maps.atKey_put_same hm hk _ _⟩

theorem MapIs.look_in {w : World} {M : Nat} {hs : List Hd} (h : MapIs w M hs) (j : Nat) (hj : j < hs.length) (hw : (Lit.int .i64 hs[j].o).wf = true) :
    (Instr.lookup 49 (.map (some M)) (.int .i64 hs[j].o) true).run Try.prog w = .ok (.tuple #[.int .i64 j, .bool true]) w := by
  obtain ⟨D, h1, h2⟩ := h
  obtain ⟨v, ps, h3, h4⟩ := h1.look_ok law3 Try.underlying49 (zero3 w) (zd := .lit (.int .i64 0)) (zp := []) (plainElem_int Try.underlying3 (by decide)) (Maps.keyOf_int_mk Try.underlying3 hw)
  rw [(h2.2 j hj).1] at h3
  rw [(h2.2 j hj).2] at h4
  obtain ⟨c, rfl, hc, _⟩ := plainElem_int_inv Try.underlying3 h4
  simp at hc
  rw [h3, ← hc.1]

theorem MapIs.look_out {w : World} {M : Nat} {hs : List Hd} (h : MapIs w M hs) (o : Int) (ho : ∀ j (h : j < hs.length), hs[j].o ≠ o) (hw : (Lit.int .i64 o).wf = true) :
    (Instr.lookup 49 (.map (some M)) (.int .i64 o) true).run Try.prog w = .ok (.tuple #[.int .i64 0, .bool false]) w := by
  obtain ⟨D, h1, h2⟩ := h
  obtain ⟨v, ps, h3, h4⟩ := h1.look_ok law3 Try.underlying49 (zero3 w) (zd := .lit (.int .i64 0)) (zp := []) (plainElem_int Try.underlying3 (by decide)) (Maps.keyOf_int_mk Try.underlying3 hw)
  rw [h2.1 o ho] at h3
  rw [Maps.atKey_of_not_has (h2.1 o ho)] at h4
  obtain ⟨c, rfl, hc, _⟩ := plainElem_int_inv Try.underlying3 h4
  simp at hc
  rw [h3, ← hc.1]

theorem MapIs.put {w1 : World} {M : Nat} {D : DataW Unit} {hs : List Hd} (h : Tie D hs) (hm : Maps.IsMap D) (o : Int) (ho : ∀ j (h : j < hs.length), hs[j].o ≠ o)
    (hown : w1.ownsMap Try.prog 3 (plainElem Try.prog 3) M (hs.length + 1) (D.put (.int .i64 o) (.lit (.int .i64 hs.length)))) : MapIs w1 M (hs ++ [⟨o, []⟩]) :=
  ⟨_, by simpa using hown, tie_put h hm o ho⟩
end Go.Proofs.Qxb6617406a
