/- What the plain function 'group' answers. -/
import Derived.Test.Qxb6617406aGroupParts
namespace Go.Proofs.Qxb6617406a

/-- where the owner's first piece stands -/
def fi (ps : List Pc) (o : Int) : Nat := ps.findIdx (fun p => p.o == o)

/-- the owner's pieces among the first k -/
def own (ps : List Pc) (o : Int) (k : Nat) : List (Int × Int) := ((ps.take k).filter (fun p => p.o == o)).map (fun p => (p.s, p.e))

theorem own_succ_hit (ps : List Pc) (o : Int) (k : Nat) (h : k < ps.length) (e : ps[k].o = o) : own ps o (k + 1) = own ps o k ++ [(ps[k].s, ps[k].e)] := by
  unfold own
  rw [List.take_succ_eq_append_getElem h, List.filter_append]
  simp [e]
theorem own_succ_miss (ps : List Pc) (o : Int) (k : Nat) (h : k < ps.length) (e : ps[k].o ≠ o) : own ps o (k + 1) = own ps o k := by
  unfold own
  rw [List.take_succ_eq_append_getElem h, List.filter_append]
  simp [e]
theorem own_zero (ps : List Pc) (o : Int) : own ps o 0 = [] := rfl

theorem own_mono (ps : List Pc) (o : Int) : ∀ d k, k + d ≤ ps.length → ∃ t, own ps o (k + d) = own ps o k ++ t
  | 0, k, _ => ⟨[], by simp⟩
  | d + 1, k, h => by
    obtain ⟨t, ht⟩ := own_mono ps o d k (by omega)
    by_cases e : ps[k + d].o = o
    · exact ⟨t ++ [(ps[k + d].s, ps[k + d].e)], by rw [← Nat.add_assoc, own_succ_hit ps o (k + d) (by omega) e, ht, List.append_assoc]⟩
    · exact ⟨t, by rw [← Nat.add_assoc, own_succ_miss ps o (k + d) (by omega) e, ht]⟩

/-- the piece at k is the next of the owner's -/
theorem own_at (ps : List Pc) (o : Int) (k : Nat) (h : k < ps.length) (e : ps[k].o = o) : (own ps o ps.length)[(own ps o k).length]? = some (ps[k].s, ps[k].e) := by
  obtain ⟨t, ht⟩ := own_mono ps o (ps.length - (k + 1)) (k + 1) (by omega)
  rw [show k + 1 + (ps.length - (k + 1)) = ps.length by omega] at ht
  rw [ht, own_succ_hit ps o k h e]
  simp

theorem own_before (ps : List Pc) (o : Int) : ∀ k, k ≤ fi ps o → k ≤ ps.length → own ps o k = []
  | 0, _, _ => rfl
  | k + 1, h, hk => by
    rw [own_succ_miss ps o k (by omega), own_before ps o k (by omega) (by omega)]
    have := List.not_of_lt_findIdx (p := fun p : Pc => p.o == o) (xs := ps) (i := k) (by unfold fi at h; omega)
    simpa using this

theorem fi_before (ps : List Pc) (o : Int) (k : Nat) (h : k < fi ps o) (hk : k < ps.length) : ps[k].o ≠ o := by
  have := List.not_of_lt_findIdx (p := fun p : Pc => p.o == o) (xs := ps) (i := k) h
  simpa using this
theorem fi_at (ps : List Pc) (o : Int) (h : fi ps o < ps.length) : ps[fi ps o].o = o := by
  have := List.findIdx_getElem (p := fun p : Pc => p.o == o) (xs := ps) (w := h)
  exact eq_of_beq this
theorem fi_eq (ps : List Pc) (o : Int) (k : Nat) (hk : k < ps.length) (e : ps[k].o = o) (h : ∀ j (hj : j < k), ps[j].o ≠ o) : fi ps o = k := by
  have h1 : fi ps o ≤ k := by
    apply Nat.le_of_not_lt
    intro h2
    exact fi_before ps o k h2 hk e
  apply Nat.le_antisymm h1
  apply Nat.le_of_not_lt
  intro h2
  exact h _ h2 (fi_at ps o (by omega))

structure Good (ps : List Pc) (k : Nat) (hs : List Hd) : Prop where
  rs : ∀ i (h : i < hs.length), hs[i].rs = own ps hs[i].o k
  lt : ∀ i (h : i < hs.length), fi ps hs[i].o < k
  up : ∀ i j (hi : i < hs.length) (hj : j < hs.length), i < j → fi ps hs[i].o < fi ps hs[j].o
  all : ∀ j (hj : j < ps.length), j < k → ∃ i, ∃ h : i < hs.length, hs[i].o = ps[j].o

theorem Good.distinct {ps : List Pc} {k : Nat} {hs : List Hd} (g : Good ps k hs) (i j : Nat) (hi : i < hs.length) (hj : j < hs.length) (e : hs[i].o = hs[j].o) : i = j := by
  rcases Nat.lt_trichotomy i j with h | h | h
  · have := g.up i j hi hj h; rw [e] at this; omega
  · exact h
  · have := g.up j i hj hi h; rw [e] at this; omega

/-- the owner is there: one range more -/
theorem Good.add {ps : List Pc} {k : Nat} {hs : List Hd} (i : Nat) (hk : k < ps.length) (hi : i < hs.length) (ho : hs[i].o = ps[k].o)
    (rs : ∀ j (h : j < hs.length), j ≠ i → hs[j].rs = own ps hs[j].o k) (rsi : hs[i].rs = own ps ps[k].o k)
    (lt : ∀ j (h : j < hs.length), fi ps hs[j].o < k + 1) (up : ∀ i j (hi : i < hs.length) (hj : j < hs.length), i < j → fi ps hs[i].o < fi ps hs[j].o)
    (all : ∀ j (hj : j < ps.length), j < k + 1 → ∃ i, ∃ h : i < hs.length, hs[i].o = ps[j].o) : Good ps (k + 1) (addR hs i (ps[k].s, ps[k].e)) := by
  have hl := addR_length hs i (ps[k].s, ps[k].e)
  have hlen : ∀ j, j < (addR hs i (ps[k].s, ps[k].e)).length → j < hs.length := fun j h => by omega
  have dist : ∀ j (h : j < hs.length), j ≠ i → hs[j].o ≠ ps[k].o := by
    intro j h hne e
    rcases Nat.lt_or_gt_of_ne hne with h1 | h1
    · have := up j i h hi h1; rw [e, ho] at this; omega
    · have := up i j hi h h1; rw [e, ho] at this; omega
  refine ⟨?_, ?_, ?_, ?_⟩
  · intro j hj
    rw [addR_get hs i j _ (hlen j hj) hj]
    by_cases e : i = j
    · subst e
      simp only [if_true]
      rw [ho, own_succ_hit ps _ k hk rfl, rsi]
    · simp only [if_neg e]
      rw [own_succ_miss ps _ k hk (Ne.symm (dist j (hlen j hj) (Ne.symm e)))]
      exact rs j (hlen j hj) (Ne.symm e)
  · intro j hj
    rw [addR_owner hs i j _ (hlen j hj) hj]
    exact lt j (hlen j hj)
  · intro a b ha hb hab
    rw [addR_owner hs i a _ (hlen a ha) ha, addR_owner hs i b _ (hlen b hb) hb]
    exact up a b _ _ hab
  · intro j hj hjk
    obtain ⟨a, ha, e⟩ := all j hj hjk
    exact ⟨a, by omega, by rw [addR_owner hs i a _ ha (by omega)]; exact e⟩

theorem good_step (ps : List Pc) (k : Nat) (hk : k < ps.length) (hs : List Hd) (g : Good ps k hs) : Good ps (k + 1) (addP hs ps[k]) := by
  unfold addP
  by_cases hp : pos hs ps[k].o < hs.length
  · rw [if_pos hp]
    have ho := pos_owner hs ps[k].o hp
    refine Good.add _ hk hp ho (fun j h _ => g.rs j h) (by rw [g.rs _ hp, ho]) (fun j h => by have := g.lt j h; omega) g.up ?_
    intro j hj hjk
    by_cases e : j = k
    · subst e; exact ⟨_, hp, ho⟩
    · exact g.all j hj (by omega)
  · rw [if_neg hp]
    have habs := pos_absent hs ps[k].o hp
    have hfi : fi ps ps[k].o = k := by
      refine fi_eq ps _ k hk rfl (fun j hj e => ?_)
      obtain ⟨a, ha, e2⟩ := g.all j (by omega) hj
      exact habs a ha (e2.trans e)
    have hL : ∀ j (h : j < (hs ++ [⟨ps[k].o, []⟩] : List Hd).length), j = hs.length ∨ ∃ h' : j < hs.length, (hs ++ [(⟨ps[k].o, []⟩ : Hd)])[j]'h = hs[j] := by
      intro j h
      by_cases e : j < hs.length
      · exact .inr ⟨e, List.getElem_append_left e⟩
      · left; simp at h; omega
    have hlast : ∀ (h : hs.length < (hs ++ [⟨ps[k].o, []⟩] : List Hd).length), (hs ++ [⟨ps[k].o, []⟩] : List Hd)[hs.length] = ⟨ps[k].o, []⟩ := by
      intro h
      rw [List.getElem_append_right (Nat.le_refl _)]
      simp
    refine Good.add hs.length hk (by simp) (by rw [hlast]) ?_ ?_ ?_ ?_ ?_
    · intro j h hne
      rcases hL j h with e | ⟨h2, e⟩
      · exact absurd e hne
      · rw [e]; exact g.rs j h2
    · rw [hlast]
      exact (own_before ps _ k (by omega) (by omega)).symm
    · intro j h
      rcases hL j h with e | ⟨h2, e⟩
      · subst e; rw [hlast]; simp only; omega
      · rw [e]; have := g.lt j h2; omega
    · intro a b ha hb hab
      rcases hL b hb with e | ⟨h2, e⟩
      · subst e
        rcases hL a ha with e1 | ⟨h1, e1⟩
        · omega
        · rw [e1, hlast]; simp only; have := g.lt a h1; omega
      · rcases hL a ha with e1 | ⟨h1, e1⟩
        · omega
        · rw [e, e1]; exact g.up a b h1 h2 hab
    · intro j hj hjk
      by_cases e : j = k
      · subst e; exact ⟨hs.length, by simp, by rw [hlast]⟩
      · obtain ⟨a, ha, e2⟩ := g.all j hj (by omega)
        exact ⟨a, by simp; omega, by rw [List.getElem_append_left ha]; exact e2⟩

theorem good_take (ps : List Pc) : ∀ k, k ≤ ps.length → Good ps k (group (ps.take k))
  | 0, _ => ⟨fun i h => absurd h (by simp [group]), fun i h => absurd h (by simp [group]), fun i j h => absurd h (by simp [group]), fun j _ h => absurd h (by omega)⟩
  | k + 1, h => by
    rw [group_take ps k (by omega)]
    exact good_step ps k (by omega) _ (good_take ps k (by omega))

theorem good_group (ps : List Pc) : Good ps ps.length (group ps) := by
  have := good_take ps ps.length (Nat.le_refl _)
  rwa [List.take_length] at this

/-- all the ranges together -/
def tot (hs : List Hd) : Nat := (hs.map (fun h => h.rs.length)).sum

theorem tot_snoc (hs : List Hd) (h : Hd) : tot (hs ++ [h]) = tot hs + h.rs.length := by simp [tot]
theorem tot_take (hs : List Hd) (i : Nat) (h : i < hs.length) : tot (hs.take (i + 1)) = tot (hs.take i) + hs[i].rs.length := by
  rw [List.take_succ_eq_append_getElem h, tot_snoc]
theorem tot_addR : ∀ (hs : List Hd) (i : Nat) (r : Int × Int), i < hs.length → tot (addR hs i r) = tot hs + 1
  | [], _, _, h => absurd h (by simp)
  | a :: hs, 0, r, _ => by simp [addR, tot]; omega
  | a :: hs, i + 1, r, h => by
    have := tot_addR hs i r (by simpa using h)
    simp only [addR, tot, List.modify_succ_cons, List.map_cons, List.sum_cons] at this ⊢
    omega
theorem tot_addP (hs : List Hd) (p : Pc) : tot (addP hs p) = tot hs + 1 := by
  unfold addP
  split
  · exact tot_addR _ _ _ (by assumption)
  · rw [tot_addR _ _ _ (by simp), tot_snoc]; simp
theorem tot_group_take (ps : List Pc) : ∀ k, k ≤ ps.length → tot (group (ps.take k)) = k
  | 0, _ => by simp [group, tot]
  | k + 1, h => by
    rw [group_take ps k (by omega), tot_addP, tot_group_take ps k (by omega)]
theorem tot_group (ps : List Pc) : tot (group ps) = ps.length := by
  have := tot_group_take ps ps.length (Nat.le_refl _)
  rwa [List.take_length] at this
theorem tot_le (hs : List Hd) (i : Nat) : tot (hs.take i) ≤ tot hs := by
  have e : tot (hs.take i ++ hs.drop i) = tot (hs.take i) + tot (hs.drop i) := by simp only [tot, List.map_append, List.sum_append]
  rw [List.take_append_drop] at e
  omega
end Go.Proofs.Qxb6617406a
