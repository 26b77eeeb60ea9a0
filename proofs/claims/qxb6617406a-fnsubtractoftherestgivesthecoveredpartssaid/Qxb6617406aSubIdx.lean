/- Subtract's answer by index; from zzAscending to the plain orders. -/
import Derived.Test.Qxb6617406aSubLaw
namespace Go.Proofs.Qxb6617406a
open Go.RowKit

theorem asc_pa (xs : List Pc) (hok : ∀ i (h : i < xs.length), xs[i].ok) (h : Asc xs true) : PA 0 xs := by
  have key : ∀ d k, k + d = xs.length → ∀ lo, (∀ h : k < xs.length, lo ≤ xs[k].s) → PA lo (xs.drop k) := by
    intro d
    induction d with
    | zero => intro k hk lo _; rw [List.drop_eq_nil_of_le (by omega)]; trivial
    | succ d ih =>
      intro k hk lo hlo
      have hk' : k < xs.length := by omega
      rw [List.drop_eq_getElem_cons hk']
      refine ⟨hlo hk', (h k hk').1, ih (k + 1) (by omega) _ (fun h2 => ?_)⟩
      have := (h (k + 1) h2).2.2 (by omega)
      simpa using this
  have := key xs.length 0 (by omega) 0 (fun h2 => by have := hok 0 h2; unfold Pc.ok at this; omega)
  simpa using this

theorem asc_ma (xs : List Pc) (hok : ∀ i (h : i < xs.length), xs[i].ok) (h : Asc xs false) : MA 0 xs := by
  have key : ∀ d k, k + d = xs.length → ∀ lo, (∀ h : k < xs.length, lo ≤ xs[k].s) → MA lo (xs.drop k) := by
    intro d
    induction d with
    | zero => intro k hk lo _; rw [List.drop_eq_nil_of_le (by omega)]; trivial
    | succ d ih =>
      intro k hk lo hlo
      have hk' : k < xs.length := by omega
      rw [List.drop_eq_getElem_cons hk']
      have h1 := h k hk'
      have h2 := h1.2.1 rfl
      refine ⟨hlo hk', by omega, ih (k + 1) (by omega) _ (fun h2 => ?_)⟩
      have := (h (k + 1) h2).2.2 (by omega)
      simpa using this
  have := key xs.length 0 (by omega) 0 (fun h2 => by have := hok 0 h2; unfold Pc.ok at this; omega)
  simpa using this

theorem PA.at : ∀ {ps : List Pc} {a : Int} (_ : PA a ps) (i : Nat) (h : i < ps.length), a ≤ ps[i].s ∧ ps[i].s ≤ ps[i].e
  | [], _, _, _, h => absurd h (by simp)
  | p :: ps, a, ⟨h1, h2, _⟩, 0, _ => ⟨h1, h2⟩
  | p :: ps, a, ⟨h1, h2, h3⟩, i + 1, h => by
    have := PA.at h3 i (by simpa using h)
    simp only [List.getElem_cons_succ]
    omega
/-- whatever stands behind a piece begins where it has ended -/
theorem PA.after : ∀ {ps : List Pc} {a : Int} (_ : PA a ps) (i : Nat) (h : i < ps.length), PA ps[i].e (ps.drop (i + 1))
  | [], _, _, _, h => absurd h (by simp)
  | p :: ps, a, ⟨h1, h2, h3⟩, 0, _ => h3
  | p :: ps, a, ⟨h1, h2, h3⟩, i + 1, h => PA.after h3 i (by simpa using h)
theorem PA.mem : ∀ {ps : List Pc} {a : Int}, PA a ps → ∀ q ∈ ps, a ≤ q.s ∧ q.s ≤ q.e
  | [], _, _, q, h => by simp at h
  | p :: ps, a, ⟨h1, h2, h3⟩, q, h => by
    rcases List.mem_cons.1 h with rfl | h
    · exact ⟨h1, h2⟩
    · have := PA.mem h3 q h; omega

theorem SG.next : ∀ {qs : List Pc} {a : Int} (_ : SG a qs) (t : Nat) (h : t + 1 < qs.length), qs[t].e < qs[t + 1].s
  | [], _, _, _, h => absurd h (by simp)
  | [_], _, _, _, h => absurd h (by simp)
  | p :: q :: qs, a, ⟨_, _, h3⟩, 0, _ => by have := h3.1; simp only [List.getElem_cons_zero, List.getElem_cons_succ]; omega
  | p :: q :: qs, a, ⟨_, _, h3⟩, t + 1, h => SG.next h3 t (by simpa using h)

/-- where piece i's parts begin -/
def Kat (f : Pc → List Pc) (ps : List Pc) (i : Nat) : Nat := ((ps.take i).flatMap f).length
theorem Kat_zero (f : Pc → List Pc) (ps : List Pc) : Kat f ps 0 = 0 := by simp [Kat]
theorem Kat_succ (f : Pc → List Pc) (ps : List Pc) (i : Nat) (h : i < ps.length) : Kat f ps (i + 1) = Kat f ps i + (f ps[i]).length := by
  unfold Kat
  rw [List.take_succ_eq_append_getElem h, List.flatMap_append, List.length_append]
  simp
theorem Kat_end (f : Pc → List Pc) (ps : List Pc) : Kat f ps ps.length = (ps.flatMap f).length := by unfold Kat; rw [List.take_length]
theorem flat_split (f : Pc → List Pc) (ps : List Pc) (i : Nat) (h : i < ps.length) : ps.flatMap f = (ps.take i).flatMap f ++ (f ps[i] ++ (ps.drop (i + 1)).flatMap f) := by
  have e : ps = ps.take i ++ ps[i] :: ps.drop (i + 1) := by rw [← List.drop_eq_getElem_cons h, List.take_append_drop]
  have e2 : ps.flatMap f = (ps.take i ++ ps[i] :: ps.drop (i + 1)).flatMap f := by rw [← e]
  rw [e2, List.flatMap_append, List.flatMap_cons]
theorem flat_at (f : Pc → List Pc) (ps : List Pc) (i t : Nat) (h : i < ps.length) (ht : t < (f ps[i]).length) : ∃ hk : Kat f ps i + t < (ps.flatMap f).length, (ps.flatMap f)[Kat f ps i + t] = (f ps[i])[t] := by
  have e := flat_split f ps i h
  have h2 : (ps.flatMap f)[Kat f ps i + t]? = some (f ps[i])[t] := by
    rw [e, List.getElem?_append_right (by unfold Kat; omega)]
    rw [show Kat f ps i + t - ((ps.take i).flatMap f).length = t by unfold Kat; omega, List.getElem?_append_left ht, List.getElem?_eq_getElem ht]
  obtain ⟨hk, h3⟩ := List.getElem?_eq_some_iff.1 h2
  exact ⟨hk, h3⟩
theorem flat_next (f : Pc → List Pc) (ps : List Pc) (i : Nat) (h : i < ps.length) (hk : Kat f ps i + (f ps[i]).length < (ps.flatMap f).length) : (ps.flatMap f)[Kat f ps i + (f ps[i]).length] ∈ (ps.drop (i + 1)).flatMap f := by
  have e := flat_split f ps i h
  have h2 : (ps.flatMap f)[Kat f ps i + (f ps[i]).length]? = ((ps.drop (i + 1)).flatMap f)[0]? := by
    rw [e, List.getElem?_append_right (by unfold Kat; omega)]
    rw [show Kat f ps i + (f ps[i]).length - ((ps.take i).flatMap f).length = (f ps[i]).length by unfold Kat; omega, List.getElem?_append_right (Nat.le_refl _), Nat.sub_self]
  rw [List.getElem?_eq_getElem hk] at h2
  exact List.mem_of_getElem? h2.symm

/-- every part that stands behind piece i's own begins where the piece has ended -/
theorem next_out (ps ms : List Pc) (hp : PA 0 ps) (hm : MA 0 ms) (i : Nat) (h : i < ps.length) (q : Pc) (hq : q ∈ (ps.drop (i + 1)).flatMap (fun p => cutQ p p.s ms)) : ps[i].e ≤ q.s ∧ q.s < q.e := by
  obtain ⟨p, h1, h2⟩ := List.mem_flatMap.1 hq
  have h3 := PA.mem (hp.after i h) p h1
  have h4 := cutQ_mem p ms p.s 0 hm q h2
  omega

theorem cov_le (p : Pc) (ms : List Pc) (hm : MA 0 ms) (hp : p.s ≤ p.e) : cov p.s p.e ms ≤ p.e - p.s := by
  have h1 := cutQ_tot p ms 0 hm hp
  have h2 := tot3_nonneg (cutQ p p.s ms)
  omega
end Go.Proofs.Qxb6617406a

namespace Go.Proofs.Qxb6617406a
/-- the parts D of piece p stand in 'out' from k on; what they are good for -/
structure Seg (out : List Pc) (k : Nat) (p : Pc) (ms D : List Pc) : Prop where
  here : ∀ t (ht : t < D.length), ∃ hk : k + t < out.length, out[k + t] = D[t]
  then_ : ∀ hk : k + D.length < out.length, p.e ≤ out[k + D.length].s ∧ out[k + D.length].s < out[k + D.length].e
  mem : ∀ t (ht : t < D.length), p.s ≤ D[t].s ∧ D[t].s < D[t].e ∧ D[t].e ≤ p.e ∧ D[t].o = p.o
  free : ∀ t (ht : t < D.length), cov D[t].s D[t].e ms = 0
  gap : ∀ t (ht : t + 1 < D.length), D[t].e < D[t + 1].s
  tot : tot3 D = (p.e - p.s) - cov p.s p.e ms
  le : p.s ≤ p.e
  cle : cov p.s p.e ms ≤ p.e - p.s

theorem segs (ps ms : List Pc) (hp : PA 0 ps) (hm : MA 0 ms) : ∃ K : Nat → Nat, K 0 = 0 ∧ K ps.length = (subt ps ms).length ∧ ∀ i (h : i < ps.length), ∃ D, K (i + 1) = K i + D.length ∧ Seg (subt ps ms) (K i) ps[i] ms D := by
  rw [subt_flat ps ms hp hm]
  refine ⟨Kat (fun p => cutQ p p.s ms) ps, Kat_zero _ _, Kat_end _ _, fun i h => ⟨cutQ ps[i] ps[i].s ms, Kat_succ _ ps i h, ?_⟩⟩
  have hps := PA.at hp i h
  exact ⟨fun t ht => flat_at (fun p => cutQ p p.s ms) ps i t h ht, fun hk => next_out ps ms hp hm i h _ (flat_next (fun p => cutQ p p.s ms) ps i h hk),
    fun t ht => cutQ_mem _ _ _ 0 hm _ (List.getElem_mem ht), fun t ht => cutQ_free _ _ _ 0 hm _ (List.getElem_mem ht), fun t ht => SG.next (cutQ_sg ps[i] ms ps[i].s 0 hm) t ht,
    cutQ_tot ps[i] ms 0 hm hps.2, hps.2, cov_le ps[i] ms hm hps.2⟩
end Go.Proofs.Qxb6617406a
