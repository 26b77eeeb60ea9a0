/- More plain laws of Subtract: at a cut of minus; sums. -/
import Derived.Test.Qxb6617406aSubIdx
namespace Go.Proofs.Qxb6617406a

theorem cutQ_same (p q : Pc) (he : q.e = p.e) (ho : q.o = p.o) : ∀ (R : List Pc) (a : Int), cutQ q a R = cutQ p a R
  | [], a => by unfold cutQ endQ; rw [he, ho]
  | m :: R, a => by
    unfold cutQ endQ
    rw [cutQ_same p q he ho R a, cutQ_same p q he ho R m.e, he, ho]

/-- what begins behind q's end takes nothing of q -/
theorem cutQ_apart (q : Pc) (h : q.s < q.e) : ∀ (R : List Pc) (lo : Int), MA lo R → q.e ≤ lo → cutQ q q.s R = [q]
  | [], _, _, _ => by unfold cutQ endQ; rw [if_pos h]
  | m :: R, lo, ⟨h1, h2, _⟩, hl => by
    unfold cutQ endQ
    rw [if_neg (by omega), if_neg (by omega), if_pos h]

theorem cutQ_cut (p : Pc) (B : List Pc) : ∀ (A : List Pc) (a lo : Int), MA lo (A ++ B) → cutQ p a (A ++ B) = (cutQ p a A).flatMap (fun q => cutQ q q.s B)
  | [], a, lo, h => by
    rw [List.nil_append, show cutQ p a [] = endQ p a from rfl]
    unfold endQ
    split
    · simp only [List.flatMap_cons, List.flatMap_nil, List.append_nil]
      exact (cutQ_same p ⟨a, p.e, p.o⟩ rfl rfl B a).symm
    · rw [cutQ_past p B a lo h (by omega)]; rfl
  | m :: A, a, lo, ⟨h1, h2, h3⟩ => by
    have hB : MA m.e B := h3.right
    rw [List.cons_append, cutQ, cutQ]
    split
    · exact cutQ_cut p B A a _ h3
    · split
      · rw [List.flatMap_append, ← cutQ_cut p B A m.e _ h3]
        congr 1
        split
        · rename_i hs
          simp only [List.flatMap_cons, List.flatMap_nil, List.append_nil]
          exact (cutQ_apart ⟨a, m.s, p.o⟩ hs B m.e hB (by simp only; omega)).symm
        · rfl
      · unfold endQ
        split
        · rename_i hs
          simp only [List.flatMap_cons, List.flatMap_nil, List.append_nil]
          exact (cutQ_apart ⟨a, p.e, p.o⟩ hs B m.e hB (by simp only; omega)).symm
        · rfl

theorem ma_append : ∀ {X Y : List Pc} {lo mid : Int}, MA lo X → (∀ q ∈ X, q.e ≤ mid) → MA mid Y → lo ≤ mid → MA lo (X ++ Y)
  | [], _, _, _, _, _, hy, h => hy.mono h
  | x :: _, _, _, _, ⟨h1, h2, h3⟩, hq, hy, _ => ⟨h1, h2, ma_append h3 (fun q h => hq q (List.mem_cons_of_mem _ h)) hy (hq x List.mem_cons_self)⟩

theorem flat_ma (ms : List Pc) (hm : MA 0 ms) : ∀ (ps : List Pc) (lo : Int), PA lo ps → MA lo (ps.flatMap (fun p => cutQ p p.s ms))
  | [], _, _ => trivial
  | p :: ps, lo, ⟨h1, h2, h3⟩ => by
    rw [List.flatMap_cons]
    exact ma_append ((cutQ_sg p ms p.s 0 hm).ma.mono h1) (fun q hq => (cutQ_mem p ms p.s 0 hm q hq).2.2.1) (flat_ma ms hm ps p.e h3) (by omega)

theorem subt_ma (ps ms : List Pc) (hp : PA 0 ps) (hm : MA 0 ms) : MA 0 (subt ps ms) := by
  rw [subt_flat ps ms hp hm]
  exact flat_ma ms hm ps 0 hp

theorem subt_cut (ps ms : List Pc) (c : Nat) (hp : PA 0 ps) (hm : MA 0 ms) : subt (subt ps (ms.take c)) (ms.drop c) = subt ps ms := by
  have hm2 : MA 0 (ms.take c ++ ms.drop c) := by rw [List.take_append_drop]; exact hm
  rw [subt_flat _ _ (subt_ma ps _ hp hm2.left).pa hm2.right, subt_flat ps _ hp hm2.left, subt_flat ps ms hp hm, List.flatMap_assoc]
  congr 1
  funext p
  rw [← cutQ_cut p (ms.drop c) (ms.take c) p.s 0 hm2, List.take_append_drop]

/-! ### how long all is -/
theorem ma_tot : ∀ (Z : List Pc) (lo hi : Int), MA lo Z → (∀ q ∈ Z, q.e ≤ hi) → lo ≤ hi → tot3 Z ≤ hi - lo
  | [], lo, hi, _, _, h => by simp only [tot3]; omega
  | z :: Z, lo, hi, ⟨h1, h2, h3⟩, hq, h => by
    have ih := ma_tot Z z.e hi h3 (fun q hq' => hq q (List.mem_cons_of_mem _ hq')) (hq z List.mem_cons_self)
    have : len1 z = z.e - z.s := by unfold len1; rw [if_pos h2]
    simp only [tot3]
    omega

theorem subt_mem (ps ms : List Pc) (hp : PA 0 ps) (hm : MA 0 ms) (q : Pc) (hq : q ∈ subt ps ms) : ∃ p ∈ ps, p.s ≤ q.s ∧ q.s < q.e ∧ q.e ≤ p.e ∧ q.o = p.o ∧ q ∈ cutQ p p.s ms := by
  rw [subt_flat ps ms hp hm] at hq
  obtain ⟨p, h1, h2⟩ := List.mem_flatMap.1 hq
  have := cutQ_mem p ms p.s 0 hm q h2
  exact ⟨p, h1, this.1, this.2.1, this.2.2.1, this.2.2.2, h2⟩

theorem subt_ok (ps ms : List Pc) (hp : PA 0 ps) (hm : MA 0 ms) (hok : ∀ i (h : i < ps.length), ps[i].ok) : ∀ i (h : i < (subt ps ms).length), (subt ps ms)[i].ok := by
  intro i h
  obtain ⟨p, h1, h2, h3, h4, h5, _⟩ := subt_mem ps ms hp hm _ (List.getElem_mem h)
  obtain ⟨j, hj, rfl⟩ := List.mem_iff_getElem.1 h1
  have := hok j hj
  unfold Pc.ok at this ⊢
  rw [h5]
  omega

theorem subt_tot (ps ms : List Pc) (hp : PA 0 ps) (hm : MA 0 ms) (hok : ∀ i (h : i < ps.length), ps[i].ok) : tot3 (subt ps ms) < 18446744073709551616 := by
  have h := ma_tot (subt ps ms) 0 18446744073709551615 (subt_ma ps ms hp hm) (fun q hq => by
    obtain ⟨i, hi, rfl⟩ := List.mem_iff_getElem.1 hq
    have := subt_ok ps ms hp hm hok i hi
    unfold Pc.ok at this
    omega) (by omega)
  omega

/-- the sum of what is left of the first i pieces -/
def wsum (ps ms : List Pc) (i : Nat) : Int := tot3 ((ps.take i).flatMap (fun p => cutQ p p.s ms))
theorem wsum_zero (ps ms : List Pc) : wsum ps ms 0 = 0 := by simp [wsum, tot3]
theorem wsum_succ (ps ms : List Pc) (hp : PA 0 ps) (hm : MA 0 ms) (i : Nat) (h : i < ps.length) : wsum ps ms (i + 1) = wsum ps ms i + ((ps[i].e - ps[i].s) - cov ps[i].s ps[i].e ms) := by
  unfold wsum
  rw [List.take_succ_eq_append_getElem h, List.flatMap_append, tot3_append, List.flatMap_cons, List.flatMap_nil, List.append_nil, cutQ_tot ps[i] ms 0 hm (PA.at hp i h).2]
theorem wsum_end (ps ms : List Pc) (hp : PA 0 ps) (hm : MA 0 ms) : wsum ps ms ps.length = tot3 (subt ps ms) := by
  unfold wsum; rw [List.take_length, subt_flat ps ms hp hm]
theorem wsum_le (ps ms : List Pc) (hp : PA 0 ps) (hm : MA 0 ms) (i : Nat) : wsum ps ms i ≤ tot3 (subt ps ms) := by
  rw [subt_flat ps ms hp hm]
  unfold wsum
  have e : ps.flatMap (fun p => cutQ p p.s ms) = (ps.take i).flatMap (fun p => cutQ p p.s ms) ++ (ps.drop i).flatMap (fun p => cutQ p p.s ms) := by
    rw [← List.flatMap_append, List.take_append_drop]
  rw [e, tot3_append]
  have := tot3_nonneg ((ps.drop i).flatMap (fun p => cutQ p p.s ms))
  omega
theorem wsum_nonneg (ps ms : List Pc) (i : Nat) : 0 ≤ wsum ps ms i := tot3_nonneg _

/-! ### the rest of the rest -/
/-- the sum of the first i pieces' lengths, and of what minus covers of them -/
def lsum (ps : List Pc) (i : Nat) : Int := tot3 (ps.take i)
def csum (ps ms : List Pc) : Nat → Int
  | 0 => 0
  | i + 1 => csum ps ms i + (match ps[i]? with | some p => cov p.s p.e ms | none => 0)
theorem csum_succ (ps ms : List Pc) (i : Nat) (h : i < ps.length) : csum ps ms (i + 1) = csum ps ms i + cov ps[i].s ps[i].e ms := by
  rw [csum, List.getElem?_eq_getElem h]
theorem csum_nonneg (ps ms : List Pc) : ∀ i, 0 ≤ csum ps ms i
  | 0 => Int.le_refl 0
  | i + 1 => by
    rw [csum]
    have := csum_nonneg ps ms i
    split
    · rename_i p _
      have := cov_nonneg p.s p.e ms
      omega
    · omega
theorem lsum_succ (ps : List Pc) (hp : PA 0 ps) (i : Nat) (h : i < ps.length) : lsum ps (i + 1) = lsum ps i + (ps[i].e - ps[i].s) := by
  unfold lsum
  rw [tot3_take ps i h]
  have := (PA.at hp i h).2
  unfold len1
  split <;> omega
theorem lsum_split (ps ms : List Pc) (hp : PA 0 ps) (hm : MA 0 ms) : ∀ i, i ≤ ps.length → lsum ps i = wsum ps ms i + csum ps ms i
  | 0, _ => by simp [lsum, wsum_zero, csum, tot3]
  | i + 1, h => by
    rw [lsum_succ ps hp i (by omega), wsum_succ ps ms hp hm i (by omega), csum_succ ps ms i (by omega), lsum_split ps ms hp hm i (by omega)]
    omega
theorem pa_tot : ∀ (Z : List Pc) (lo hi : Int), PA lo Z → (∀ q ∈ Z, q.e ≤ hi) → lo ≤ hi → tot3 Z ≤ hi - lo
  | [], lo, hi, _, _, h => by simp only [tot3]; omega
  | z :: Z, lo, hi, ⟨h1, h2, h3⟩, hq, h => by
    have ih := pa_tot Z z.e hi h3 (fun q hq' => hq q (List.mem_cons_of_mem _ hq')) (hq z List.mem_cons_self)
    have : len1 z = z.e - z.s := by unfold len1; split <;> omega
    simp only [tot3]
    omega
theorem lsum_lt (ps : List Pc) (hp : PA 0 ps) (hok : ∀ i (h : i < ps.length), ps[i].ok) (i : Nat) : 0 ≤ lsum ps i ∧ lsum ps i < 18446744073709551616 := by
  have h1 := tot3_nonneg (ps.take i)
  have h2 := tot3_take_le ps i
  have h3 := pa_tot ps 0 18446744073709551615 hp (fun q hq => by
    obtain ⟨j, hj, rfl⟩ := List.mem_iff_getElem.1 hq
    have := hok j hj
    unfold Pc.ok at this
    omega) (by omega)
  unfold lsum
  omega

/-- inside piece p, what is left of all pieces is what is left of p -/
theorem cov_rest (ps ms : List Pc) (hp : PA 0 ps) (hm : MA 0 ms) (i : Nat) (h : i < ps.length) (x y : Int) (hx : ps[i].s ≤ x) (hy : y ≤ ps[i].e) (hxy : x ≤ y) : cov x y (subt ps ms) = cov x y (cutQ ps[i] ps[i].s ms) := by
  rw [subt_flat ps ms hp hm, flat_split _ ps i h, cov_append, cov_append]
  have h1 : cov x y ((ps.drop (i + 1)).flatMap (fun p => cutQ p p.s ms)) = 0 := cov_zero x y _ (fun q hq => by have := next_out ps ms hp hm i h q hq; omega)
  have h2 : cov x y ((ps.take i).flatMap (fun p => cutQ p p.s ms)) = 0 := by
    have : ∀ Z : List Pc, (∀ q ∈ Z, q.e ≤ x) → cov x y Z = 0 := by
      intro Z
      induction Z with
      | nil => intro _; rfl
      | cons z Z ih =>
        intro hz
        rw [cov, ih (fun q hq => hz q (List.mem_cons_of_mem _ hq))]
        have := hz z List.mem_cons_self
        rw [ov_eq]
        omega
    refine this _ (fun q hq => ?_)
    obtain ⟨p, hp1, hp2⟩ := List.mem_flatMap.1 hq
    obtain ⟨j, hj, rfl⟩ := List.mem_iff_getElem.1 hp1
    simp only [List.length_take] at hj
    rw [List.getElem_take] at hp2
    have h3 := (cutQ_mem ps[j] ms ps[j].s 0 hm q hp2).2.2.1
    have h4 := PA.mem (hp.after j (by omega)) ps[i] (List.mem_iff_getElem.2 ⟨i - (j + 1), by simp; omega, by rw [List.getElem_drop]; congr 1; omega⟩)
    omega
  rw [h1, h2]
  omega

theorem rest_cov (ps ms : List Pc) (hp : PA 0 ps) (hm : MA 0 ms) (i : Nat) (h : i < ps.length) (x y : Int) (hx : ps[i].s ≤ x) (hy : y ≤ ps[i].e) (hxy : x ≤ y) : cov x y (subt ps ms) + cov x y ms = y - x := by
  rw [cov_rest ps ms hp hm i h x y hx hy hxy]
  exact cutQ_cov ps[i] ms ps[i].s 0 hm x y hx hxy hy

/-- what is left when the rest is taken away: covered parts alone -/
theorem got_cov (ps ms : List Pc) (hp : PA 0 ps) (hm : MA 0 ms) (q : Pc) (hq : q ∈ subt ps (subt ps ms)) : ∃ i, ∃ h : i < ps.length, Ins q ps[i] ∧ q.s < q.e ∧ cov q.s q.e ms = q.e - q.s := by
  have hr := subt_ma ps ms hp hm
  obtain ⟨p, h1, h2, h3, h4, h5, h6⟩ := subt_mem ps _ hp hr q hq
  obtain ⟨i, hi, rfl⟩ := List.mem_iff_getElem.1 h1
  have h7 := cutQ_free ps[i] _ _ 0 hr q h6
  have h8 := rest_cov ps ms hp hm i hi q.s q.e h2 h4 (by omega)
  exact ⟨i, hi, ⟨h5, h2, h4⟩, h3, by omega⟩

theorem got_tot_take (ps ms : List Pc) (hp : PA 0 ps) (hm : MA 0 ms) : ∀ i, i ≤ ps.length → wsum ps (subt ps ms) i = csum ps ms i
  | 0, _ => by rw [wsum_zero]; rfl
  | i + 1, h => by
    have h1 := rest_cov ps ms hp hm i (by omega) ps[i].s ps[i].e (Int.le_refl _) (Int.le_refl _) (PA.at hp i (by omega)).2
    rw [wsum_succ ps _ hp (subt_ma ps ms hp hm) i (by omega), csum_succ ps ms i (by omega), got_tot_take ps ms hp hm i (by omega)]
    omega
theorem got_tot (ps ms : List Pc) (hp : PA 0 ps) (hm : MA 0 ms) : tot3 (subt ps (subt ps ms)) = csum ps ms ps.length := by
  rw [← wsum_end ps _ hp (subt_ma ps ms hp hm), got_tot_take ps ms hp hm _ (Nat.le_refl _)]
theorem rest_tot (ps ms : List Pc) (hp : PA 0 ps) (hm : MA 0 ms) : tot3 (subt ps ms) = lsum ps ps.length - csum ps ms ps.length := by
  have h1 := lsum_split ps ms hp hm ps.length (Nat.le_refl _)
  rw [wsum_end ps ms hp hm] at h1
  omega

theorem MA.next : ∀ {qs : List Pc} {a : Int} (_ : MA a qs) (t : Nat) (h : t + 1 < qs.length), qs[t].e ≤ qs[t + 1].s
  | [], _, _, _, h => absurd h (by simp)
  | [_], _, _, _, h => absurd h (by simp)
  | p :: q :: qs, a, ⟨_, _, h3⟩, 0, _ => by have := h3.1; simp only [List.getElem_cons_zero, List.getElem_cons_succ]; omega
  | p :: q :: qs, a, ⟨_, _, h3⟩, t + 1, h => MA.next h3 t (by simpa using h)
end Go.Proofs.Qxb6617406a
