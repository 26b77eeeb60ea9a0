/- The plain laws of Subtract. -/
import Derived.Test.Qxb6617406aSub
import Derived.Test.Qxb6617406aReads3
namespace Go.Proofs.Qxb6617406a

def endQ (p : Pc) (a : Int) : List Pc := if a < p.e then [⟨a, p.e, p.o⟩] else []

/-- as cutP, but it passes over what ends at or before 'a' -/
def cutQ (p : Pc) : Int → List Pc → List Pc
  | a, [] => endQ p a
  | a, m :: R => if m.e ≤ a then cutQ p a R else if m.s < p.e then (if a < m.s then [⟨a, m.s, p.o⟩] else []) ++ cutQ p m.e R else endQ p a

/-- ascending, disjoint; pieces may be empty -/
def PA : Int → List Pc → Prop
  | _, [] => True
  | lo, p :: ps => lo ≤ p.s ∧ p.s ≤ p.e ∧ PA p.e ps
/-- ascending, disjoint, none empty -/
def MA : Int → List Pc → Prop
  | _, [] => True
  | lo, p :: ps => lo ≤ p.s ∧ p.s < p.e ∧ MA p.e ps
/-- ascending, none empty, and none touches the next -/
def SG : Int → List Pc → Prop
  | _, [] => True
  | lo, p :: ps => lo ≤ p.s ∧ p.s < p.e ∧ SG (p.e + 1) ps

theorem PA.mono : ∀ {ps : List Pc} {a b : Int}, b ≤ a → PA a ps → PA b ps
  | [], _, _, _, _ => trivial
  | _ :: _, _, _, h, ⟨h1, h2, h3⟩ => ⟨by omega, h2, h3⟩
theorem MA.mono : ∀ {ps : List Pc} {a b : Int}, b ≤ a → MA a ps → MA b ps
  | [], _, _, _, _ => trivial
  | _ :: _, _, _, h, ⟨h1, h2, h3⟩ => ⟨by omega, h2, h3⟩
theorem SG.mono : ∀ {ps : List Pc} {a b : Int}, b ≤ a → SG a ps → SG b ps
  | [], _, _, _, _ => trivial
  | _ :: _, _, _, h, ⟨h1, h2, h3⟩ => ⟨by omega, h2, h3⟩
theorem SG.ma : ∀ {ps : List Pc} {a : Int}, SG a ps → MA a ps
  | [], _, _ => trivial
  | _ :: _, _, ⟨h1, h2, h3⟩ => ⟨h1, h2, (SG.ma h3).mono (by omega)⟩
theorem MA.pa : ∀ {ps : List Pc} {a : Int}, MA a ps → PA a ps
  | [], _, _ => trivial
  | _ :: _, _, ⟨h1, h2, h3⟩ => ⟨h1, by omega, MA.pa h3⟩

theorem MA.mem : ∀ {ps : List Pc} {a : Int}, MA a ps → ∀ q ∈ ps, a ≤ q.s ∧ q.s < q.e
  | [], _, _, q, h => by simp at h
  | p :: ps, a, ⟨h1, h2, h3⟩, q, h => by
    rcases List.mem_cons.1 h with rfl | h
    · exact ⟨h1, h2⟩
    · have := MA.mem h3 q h; omega

theorem MA.right : ∀ {xs ys : List Pc} {a : Int}, MA a (xs ++ ys) → MA a ys
  | [], _, _, h => h
  | _ :: _, _, _, ⟨h1, h2, h3⟩ => (MA.right h3).mono (by omega)
theorem MA.left : ∀ {xs ys : List Pc} {a : Int}, MA a (xs ++ ys) → MA a xs
  | [], _, _, _ => trivial
  | _ :: _, _, _, ⟨h1, h2, h3⟩ => ⟨h1, h2, MA.left h3⟩

/-! ### cutQ and subt -/
theorem cutQ_past (p : Pc) : ∀ (R : List Pc) (a lo : Int), MA lo R → p.e ≤ a → cutQ p a R = []
  | [], a, _, _, h => by unfold cutQ endQ; rw [if_neg (by omega)]
  | m :: R, a, lo, ⟨h1, h2, h3⟩, h => by
    unfold cutQ
    split
    · exact cutQ_past p R a _ h3 h
    · split
      · rw [if_neg (by omega), List.nil_append]
        exact cutQ_past p R _ _ h3 (by omega)
      · unfold endQ; rw [if_neg (by omega)]

theorem cutP_eq (p : Pc) : ∀ (R : List Pc) (a lo : Int), MA lo R → (∀ m ∈ R, a < m.e) → cutP p a R = cutQ p a R
  | [], a, _, _, _ => by unfold cutP cutQ endQ; rfl
  | m :: R, a, lo, ⟨h1, h2, h3⟩, h => by
    have hm := h m List.mem_cons_self
    unfold cutP cutQ endQ
    rw [if_neg (show ¬ m.e ≤ a by omega)]
    split
    · rw [cutP_eq p R m.e _ h3 (fun q hq => by have := MA.mem h3 q hq; omega)]
    · rfl

theorem cutP_drop (p : Pc) : ∀ (R : List Pc) (a lo : Int), MA lo R → cutP p a (R.dropWhile (fun m => decide (m.e ≤ a))) = cutQ p a R
  | [], a, _, _ => by unfold cutQ endQ; rfl
  | m :: R, a, lo, ⟨h1, h2, h3⟩ => by
    rw [List.dropWhile_cons]
    by_cases h : m.e ≤ a
    · rw [if_pos (by simpa using h), cutP_drop p R a _ h3, cutQ, if_pos h]
    · rw [if_neg (by simpa using h)]
      refine cutP_eq p (m :: R) a lo ⟨h1, h2, h3⟩ (fun q hq => ?_)
      rcases List.mem_cons.1 hq with rfl | hq
      · omega
      · have := MA.mem h3 q hq; omega

theorem drop_drop (ms : List Pc) (a b : Int) (h : a ≤ b) : (ms.dropWhile (fun m => decide (m.e ≤ a))).dropWhile (fun m => decide (m.e ≤ b)) = ms.dropWhile (fun m => decide (m.e ≤ b)) := by
  induction ms with
  | nil => rfl
  | cons m ms ih =>
    rw [List.dropWhile_cons]
    by_cases h1 : m.e ≤ a
    · rw [if_pos (by simpa using h1), ih, List.dropWhile_cons, if_pos (by simp; omega)]
    · rw [if_neg (by simpa using h1)]

theorem subt_flat_drop (ms : List Pc) (l : Int) (hm : MA l ms) : ∀ (ps : List Pc) (lo : Int), PA lo ps → subt ps (ms.dropWhile (fun m => decide (m.e ≤ lo))) = ps.flatMap (fun p => cutQ p p.s ms)
  | [], _, _ => rfl
  | p :: ps, lo, ⟨h1, h2, h3⟩ => by
    rw [subt, drop_drop ms lo p.s h1, cutP_drop p ms p.s l hm, subt_flat_drop ms l hm ps p.s (h3.mono h2)]
    rfl

theorem subt_flat (ps ms : List Pc) (hp : PA 0 ps) (hm : MA 0 ms) : subt ps ms = ps.flatMap (fun p => cutQ p p.s ms) := by
  have h := subt_flat_drop ms 0 hm ps (-1) (hp.mono (by omega))
  rw [← h]
  cases ms with
  | nil => rfl
  | cons m ms =>
    rw [List.dropWhile_cons, if_neg (by have := hm.1; have := hm.2.1; simp; omega)]

/-! ### the shape of cutQ -/
theorem cutQ_sg (p : Pc) : ∀ (R : List Pc) (a lo : Int), MA lo R → SG a (cutQ p a R)
  | [], a, _, _ => by
    unfold cutQ endQ
    split
    · exact ⟨Int.le_refl _, by assumption, trivial⟩
    · trivial
  | m :: R, a, lo, ⟨h1, h2, h3⟩ => by
    unfold cutQ
    split
    · exact cutQ_sg p R a _ h3
    · split
      · have ih := cutQ_sg p R m.e _ h3
        split
        · exact ⟨Int.le_refl _, by assumption, ih.mono (by simp only; omega)⟩
        · exact ih.mono (by omega)
      · unfold endQ
        split
        · exact ⟨Int.le_refl _, by assumption, trivial⟩
        · trivial

theorem cutQ_mem (p : Pc) : ∀ (R : List Pc) (a lo : Int), MA lo R → ∀ q ∈ cutQ p a R, a ≤ q.s ∧ q.s < q.e ∧ q.e ≤ p.e ∧ q.o = p.o
  | [], a, _, _, q, h => by
    unfold cutQ endQ at h
    split at h
    · simp at h; subst h; exact ⟨Int.le_refl _, by assumption, Int.le_refl _, rfl⟩
    · simp at h
  | m :: R, a, lo, ⟨h1, h2, h3⟩, q, h => by
    unfold cutQ at h
    split at h
    · exact cutQ_mem p R a _ h3 q h
    · split at h
      · rcases List.mem_append.1 h with h | h
        · split at h
          · simp at h; subst h; exact ⟨Int.le_refl _, by assumption, by simp only; omega, rfl⟩
          · simp at h
        · have := cutQ_mem p R m.e _ h3 q h
          exact ⟨by omega, this.2.1, this.2.2.1, this.2.2.2⟩
      · unfold endQ at h
        split at h
        · simp at h; subst h; exact ⟨Int.le_refl _, by assumption, Int.le_refl _, rfl⟩
        · simp at h

/-! ### measures -/
theorem ov_eq (a b c d : Int) : ov a b c d = max 0 (min b d - max a c) := by
  unfold ov
  (repeat' split) <;> omega

theorem cov_zero (x y : Int) : ∀ (R : List Pc), (∀ m ∈ R, y ≤ m.s) → cov x y R = 0
  | [], _ => rfl
  | m :: R, h => by
    have h1 := h m List.mem_cons_self
    rw [cov, cov_zero x y R (fun q hq => h q (List.mem_cons_of_mem _ hq))]
    rw [ov_eq]
    omega

theorem cov_from (x x' y : Int) (hx : x ≤ x') : ∀ (R : List Pc), (∀ m ∈ R, x' ≤ m.s) → cov x y R = cov x' y R
  | [], _ => rfl
  | m :: R, h => by
    have h1 := h m List.mem_cons_self
    rw [cov, cov, cov_from x x' y hx R (fun q hq => h q (List.mem_cons_of_mem _ hq))]
    congr 1
    rw [ov_eq, ov_eq]
    omega

theorem cov_inside (x y : Int) : ∀ (Z : List Pc), (∀ q ∈ Z, x ≤ q.s ∧ q.s < q.e ∧ q.e ≤ y) → cov x y Z = tot3 Z
  | [], _ => rfl
  | q :: Z, h => by
    have h1 := h q List.mem_cons_self
    rw [cov, tot3, cov_inside x y Z (fun q hq => h q (List.mem_cons_of_mem _ hq))]
    congr 1
    rw [ov_eq]
    unfold len1
    split <;> omega

/-- the part between x and y is parted between what is left and what is taken -/
theorem cutQ_cov (p : Pc) : ∀ (R : List Pc) (a lo : Int), MA lo R → ∀ x y, a ≤ x → x ≤ y → y ≤ p.e → cov x y (cutQ p a R) + cov x y R = y - x
  | [], a, _, _, x, y, h1, h2, h3 => by
    unfold cutQ endQ
    split
    · simp only [cov]; rw [ov_eq]; omega
    · simp only [cov]; omega
  | m :: R, a, lo, ⟨g1, g2, g3⟩, x, y, h1, h2, h3 => by
    have hR : ∀ q ∈ R, m.e ≤ q.s := fun q hq => (MA.mem g3 q hq).1
    unfold cutQ
    split
    · rename_i hme
      have ih := cutQ_cov p R a _ g3 x y h1 h2 h3
      have : ov x y m.s m.e = 0 := by rw [ov_eq]; omega
      simp only [cov]
      omega
    · rename_i hme
      split
      · rename_i hms
        have hE : cov x y (if a < m.s then [⟨a, m.s, p.o⟩] else []) = if a < m.s then ov x y a m.s else 0 := by
          split <;> simp [cov]
        rw [cov_append, hE, cov]
        have hQ : ∀ q ∈ cutQ p m.e R, m.e ≤ q.s := fun q hq => (cutQ_mem p R m.e _ g3 q hq).1
        by_cases hy : y ≤ m.e
        · rw [cov_zero x y R (fun q hq => by have := hR q hq; omega), cov_zero x y (cutQ p m.e R) (fun q hq => by have := hQ q hq; omega)]
          rw [ov_eq, ov_eq]
          split <;> omega
        · by_cases hx : m.e ≤ x
          · have ih := cutQ_cov p R m.e _ g3 x y hx h2 h3
            have e1 : ov x y m.s m.e = 0 := by rw [ov_eq]; omega
            have e2 : (if a < m.s then ov x y a m.s else 0) = 0 := by
              split
              · rw [ov_eq]; omega
              · rfl
            rw [e1, e2]
            omega
          · have ih := cutQ_cov p R m.e _ g3 m.e y (Int.le_refl _) (by omega) h3
            rw [cov_from x m.e y (by omega) R hR, cov_from x m.e y (by omega) (cutQ p m.e R) hQ]
            have e3 : (if a < m.s then ov x y a m.s else 0) + ov x y m.s m.e = m.e - x := by
              rw [ov_eq, ov_eq]
              split <;> omega
            omega
      · rename_i hms
        rw [cov, cov_zero x y R (fun q hq => by have := hR q hq; omega)]
        have e1 : ov x y m.s m.e = 0 := by rw [ov_eq]; omega
        rw [e1]
        unfold endQ
        split
        · simp only [cov]; rw [ov_eq]; omega
        · simp only [cov]; omega

theorem cov_mem (x y : Int) : ∀ (Z : List Pc) (q : Pc), q ∈ Z → ov x y q.s q.e ≤ cov x y Z
  | [], q, h => by simp at h
  | z :: Z, q, h => by
    have h1 := cov_nonneg x y Z
    have h2 := ov_nonneg x y z.s z.e
    rw [cov]
    rcases List.mem_cons.1 h with rfl | h
    · omega
    · have := cov_mem x y Z q h; omega

/-- what is left is not covered -/
theorem cutQ_free (p : Pc) (R : List Pc) (a lo : Int) (h : MA lo R) (q : Pc) (hq : q ∈ cutQ p a R) : cov q.s q.e R = 0 := by
  have hm := cutQ_mem p R a lo h q hq
  have h1 := cutQ_cov p R a lo h q.s q.e hm.1 (by omega) hm.2.2.1
  have h2 := cov_mem q.s q.e _ q hq
  have h3 : ov q.s q.e q.s q.e = q.e - q.s := by rw [ov_eq]; omega
  have h4 := cov_nonneg q.s q.e R
  omega

/-- how long what is left is -/
theorem cutQ_tot (p : Pc) (R : List Pc) (lo : Int) (h : MA lo R) (hp : p.s ≤ p.e) : tot3 (cutQ p p.s R) = (p.e - p.s) - cov p.s p.e R := by
  have h1 := cutQ_cov p R p.s lo h p.s p.e (Int.le_refl _) hp (Int.le_refl _)
  rw [cov_inside p.s p.e _ (fun q hq => by have := cutQ_mem p R p.s lo h q hq; omega)] at h1
  omega
end Go.Proofs.Qxb6617406a
