/- 'group' of a list that is cut in two. -/
import Derived.Test.Qxb6617406aGroupLaw
namespace Go.Proofs.Qxb6617406a

def addO (acc : List Int) (x : Int) : List Int := if x ∈ acc then acc else acc ++ [x]
def dd (acc xs : List Int) : List Int := xs.foldl addO acc

theorem pos_iff (hs : List Hd) (o : Int) : pos hs o < hs.length ↔ o ∈ hs.map (·.o) := by
  constructor
  · intro h
    have := pos_owner hs o h
    exact List.mem_map.2 ⟨hs[pos hs o], List.getElem_mem h, this⟩
  · intro h
    rcases Nat.lt_or_ge (pos hs o) hs.length with h1 | h1
    · exact h1
    · obtain ⟨a, ha, e⟩ := List.mem_map.1 h
      obtain ⟨j, hj, rfl⟩ := List.mem_iff_getElem.1 ha
      exact absurd e (pos_absent hs o (by omega) j hj)

theorem owners_addP (hs : List Hd) (p : Pc) : (addP hs p).map (·.o) = addO (hs.map (·.o)) p.o := by
  unfold addP addO
  by_cases h : pos hs p.o < hs.length
  · rw [if_pos h, if_pos ((pos_iff hs p.o).1 h), addR_owners]
  · rw [if_neg h, if_neg (fun e => h ((pos_iff hs p.o).2 e)), addR_owners]
    simp

theorem owners_fold : ∀ (ps : List Pc) (hs : List Hd), (ps.foldl addP hs).map (·.o) = dd (hs.map (·.o)) (ps.map (·.o))
  | [], _ => rfl
  | p :: ps, hs => by
    simp only [List.foldl_cons, List.map_cons, dd]
    rw [owners_fold ps (addP hs p), owners_addP]
    rfl
theorem owners_group (ps : List Pc) : (group ps).map (·.o) = dd [] (ps.map (·.o)) := owners_fold ps []

theorem dd_snoc (acc ys : List Int) (y : Int) : dd acc (ys ++ [y]) = addO (dd acc ys) y := by simp [dd, List.foldl_append]

theorem dd_take (acc ys : List Int) : ∀ k, k ≤ ys.length → dd acc (ys.take k) = acc ++ (dd [] (ys.take k)).filter (fun y => decide (y ∉ acc))
  | 0, _ => by simp [dd]
  | k + 1, h => by
    have ih := dd_take acc ys k (by omega)
    rw [List.take_succ_eq_append_getElem (by omega), dd_snoc, dd_snoc, ih]
    generalize dd [] (ys.take k) = d
    generalize ys[k] = y
    unfold addO
    by_cases h1 : y ∈ acc
    · rw [if_pos (List.mem_append_left _ h1)]
      by_cases h2 : y ∈ d
      · rw [if_pos h2]
      · rw [if_neg h2, List.filter_append]
        simp [h1]
    · by_cases h2 : y ∈ d
      · rw [if_pos h2, if_pos (List.mem_append_right _ (List.mem_filter.2 ⟨h2, by simpa using h1⟩))]
      · rw [if_neg h2, if_neg (fun e => by
          rcases List.mem_append.1 e with e | e
          · exact h1 e
          · exact h2 (List.mem_filter.1 e).1), List.filter_append]
        simp [h1]

theorem dd_filter (acc ys : List Int) : dd acc ys = acc ++ (dd [] ys).filter (fun y => decide (y ∉ acc)) := by
  have := dd_take acc ys ys.length (Nat.le_refl _)
  rwa [List.take_length] at this

theorem owners_cut (ps : List Pc) (c : Nat) : (group ps).map (·.o) = (group (ps.take c)).map (·.o) ++ ((group (ps.drop c)).map (·.o)).filter (fun y => decide (y ∉ (group (ps.take c)).map (·.o))) := by
  rw [owners_group (ps.drop c), ← dd_filter, owners_group, owners_group]
  have e : ps.map (·.o) = (ps.take c).map (·.o) ++ (ps.drop c).map (·.o) := by rw [← List.map_append, List.take_append_drop]
  rw [e]
  simp only [dd, List.foldl_append]

theorem own_cut (ps : List Pc) (c : Nat) (o : Int) : own ps o ps.length = own (ps.take c) o (ps.take c).length ++ own (ps.drop c) o (ps.drop c).length := by
  simp only [own, List.take_length]
  rw [← List.map_append, ← List.filter_append, List.take_append_drop]

/-- does the first part know the owner? -/
def inA (ha : List Hd) (o : Int) : Bool := ha.any (fun h => h.o == o)
theorem inA_iff (ha : List Hd) (o : Int) : inA ha o = true ↔ o ∈ ha.map (·.o) := by
  unfold inA
  rw [List.any_eq_true]
  constructor
  · rintro ⟨h, h1, h2⟩
    exact List.mem_map.2 ⟨h, h1, eq_of_beq h2⟩
  · intro h
    obtain ⟨a, h1, h2⟩ := List.mem_map.1 h
    exact ⟨a, h1, by simp [h2]⟩
theorem inA_take_succ (ha : List Hd) (o : Int) (i : Nat) (h : i < ha.length) : inA (ha.take (i + 1)) o = (inA (ha.take i) o || (ha[i].o == o)) := by
  unfold inA
  rw [List.take_succ_eq_append_getElem h, List.any_append]
  simp

/-- how many of the second part's first j owners are new -/
def cnt (ha hb : List Hd) (j : Nat) : Nat := ((hb.take j).filter (fun h => !inA ha h.o)).length
theorem cnt_zero (ha hb : List Hd) : cnt ha hb 0 = 0 := by simp [cnt]
theorem cnt_in (ha hb : List Hd) (j : Nat) (h : j < hb.length) (e : inA ha hb[j].o = true) : cnt ha hb (j + 1) = cnt ha hb j := by
  unfold cnt
  rw [List.take_succ_eq_append_getElem h, List.filter_append]
  simp [e]
theorem cnt_out (ha hb : List Hd) (j : Nat) (h : j < hb.length) (e : inA ha hb[j].o = false) : cnt ha hb (j + 1) = cnt ha hb j + 1 := by
  unfold cnt
  rw [List.take_succ_eq_append_getElem h, List.filter_append]
  simp [e]

theorem filt_at {α : Type} (p : α → Bool) (l : List α) (j : Nat) (h : j < l.length) (hp : p l[j] = true) : (l.filter p)[((l.take j).filter p).length]? = some l[j] := by
  have e : l = l.take j ++ l[j] :: l.drop (j + 1) := by rw [← List.drop_eq_getElem_cons h, List.take_append_drop]
  have e2 : l.filter p = (l.take j).filter p ++ l[j] :: (l.drop (j + 1)).filter p := by
    rw [show l.filter p = (l.take j ++ l[j] :: l.drop (j + 1)).filter p by rw [← e], List.filter_append, List.filter_cons, if_pos hp]
  rw [e2]
  simp

structure CutOk (hs ha hb : List Hd) : Prop where
  le : ha.length ≤ hs.length
  fst : ∀ i (h : i < ha.length) (h' : i < hs.length), hs[i].o = ha[i].o
  hit : ∀ i j (h : i < ha.length) (h' : i < hs.length) (hj : j < hb.length), hb[j].o = ha[i].o → hs[i].rs = ha[i].rs ++ hb[j].rs
  miss : ∀ i (h : i < ha.length) (h' : i < hs.length), (∀ j (hj : j < hb.length), hb[j].o ≠ ha[i].o) → hs[i].rs = ha[i].rs ++ []
  new : ∀ j (hj : j < hb.length), inA ha hb[j].o = false → ∃ h : ha.length + cnt ha hb j < hs.length, hs[ha.length + cnt ha hb j].o = hb[j].o ∧ hs[ha.length + cnt ha hb j].rs = hb[j].rs ++ []
  all : ha.length + cnt ha hb hb.length = hs.length

theorem own_none (ps : List Pc) (hs : List Hd) (g : Good ps ps.length hs) (o : Int) (h : ∀ j (hj : j < hs.length), hs[j].o ≠ o) : own ps o ps.length = [] := by
  unfold own
  rw [List.take_length, List.map_eq_nil_iff, List.filter_eq_nil_iff]
  intro p hp e
  obtain ⟨k, hk, rfl⟩ := List.mem_iff_getElem.1 hp
  obtain ⟨i, hi, e2⟩ := g.all k hk hk
  exact h i hi (e2.trans (eq_of_beq e))

theorem cut_ok (ps : List Pc) (c : Nat) : CutOk (group ps) (group (ps.take c)) (group (ps.drop c)) := by
  have ho := owners_cut ps c
  have hc := own_cut ps c
  have gs := good_group ps
  have ga := good_group (ps.take c)
  have gb := good_group (ps.drop c)
  generalize group ps = hs at *
  generalize group (ps.take c) = ha at *
  generalize group (ps.drop c) = hb at *
  have hlen := congrArg List.length ho
  simp only [List.length_map, List.length_append] at hlen
  have fst : ∀ i (h : i < ha.length) (h' : i < hs.length), hs[i].o = ha[i].o := by
    intro i h h'
    have := List.getElem_of_eq ho (i := i) (by simpa using h')
    rw [List.getElem_append_left (by simpa using h)] at this
    simpa using this
  have cntl : ∀ j, cnt ha hb j = ((hb.take j).map (·.o) |>.filter (fun y => decide (y ∉ ha.map (·.o)))).length := by
    intro j
    unfold cnt
    rw [List.filter_map, List.length_map]
    congr 2
    funext x
    rw [Bool.eq_iff_iff]
    simp only [Bool.not_eq_true', Function.comp, decide_eq_true_eq]
    rw [← inA_iff]
    simp
  refine ⟨by omega, fst, ?_, ?_, ?_, ?_⟩
  · intro i j h h' hj e
    rw [gs.rs i h', fst i h h', hc, ga.rs i h, gb.rs j hj, e]
  · intro i h h' hm
    rw [gs.rs i h', fst i h h', hc, ga.rs i h, own_none _ hb gb _ hm]
  · intro j hj hn
    have hn' : hb[j].o ∉ ha.map (·.o) := fun e => by rw [(inA_iff ha _).2 e] at hn; cases hn
    have hat := filt_at (fun y => decide (y ∉ ha.map (·.o))) (hb.map (·.o)) j (by simpa using hj) (by simpa using hn')
    rw [← List.map_take, ← cntl j] at hat
    have h2 : (hs.map (·.o))[ha.length + cnt ha hb j]? = some hb[j].o := by
      rw [ho, List.getElem?_append_right (by simp)]
      simp only [List.length_map, Nat.add_sub_cancel_left]
      rw [hat]
      simp
    obtain ⟨h3, h4⟩ := List.getElem?_eq_some_iff.1 h2
    have h5 : ha.length + cnt ha hb j < hs.length := by simpa using h3
    have h6 : hs[ha.length + cnt ha hb j].o = hb[j].o := by simpa using h4
    refine ⟨h5, h6, ?_⟩
    rw [gs.rs _ h5, h6, hc, gb.rs j hj, own_none _ ha ga _ (fun i hi e => hn' (List.mem_map.2 ⟨_, List.getElem_mem hi, e⟩))]
    simp
  · rw [cntl, List.take_length]
    omega

/-- a piece is the first of its owner just if Group lays a new holding -/
theorem group_len_seen (ps : List Pc) (k l : Nat) (hk : k < ps.length) (hl : l < k) (e : ps[l].o = ps[k].o) : (group (ps.take (k + 1))).length = (group (ps.take k)).length := by
  rw [group_take ps k hk]
  have g := good_take ps k (by omega)
  obtain ⟨i, hi, e2⟩ := g.all l (by omega) hl
  have hp : pos (group (ps.take k)) ps[k].o < (group (ps.take k)).length := (pos_iff _ _).2 (List.mem_map.2 ⟨_, List.getElem_mem hi, e2.trans e⟩)
  unfold addP
  rw [if_pos hp, addR_length]
theorem group_len_new (ps : List Pc) (k : Nat) (hk : k < ps.length) (h : ∀ l (hl : l < k), ps[l].o ≠ ps[k].o) : (group (ps.take (k + 1))).length = (group (ps.take k)).length + 1 := by
  rw [group_take ps k hk]
  have g := good_take ps k (by omega)
  have hp : ¬ pos (group (ps.take k)) ps[k].o < (group (ps.take k)).length := by
    intro hp
    have ho := pos_owner _ _ hp
    have h1 := g.lt _ hp
    rw [ho] at h1
    exact h _ h1 (fi_at ps _ (by omega))
  unfold addP
  rw [if_neg hp, addR_length]
  simp
end Go.Proofs.Qxb6617406a
