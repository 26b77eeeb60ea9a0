/- The plain law: digit texts and their values. -/
import Derived.Test.Qxb6621696aRows
namespace Go.Proofs.Qxb6621696a

def V : List Nat → Nat
  | [] => 0
  | x :: b => (x - 48) * 10 ^ b.length + V b
def AD (b : List Nat) : Prop := ∀ x ∈ b, 48 ≤ x ∧ x ≤ 57
def Cn (b : List Nat) : Prop := AD b ∧ ∃ x t, b = x :: t ∧ (t = [] ∨ x ≠ 48)

theorem AD.cons {x : Nat} {b : List Nat} (h : AD (x :: b)) : (48 ≤ x ∧ x ≤ 57) ∧ AD b := ⟨h x (by simp), fun y hy => h y (by simp [hy])⟩
theorem AD.mk {x : Nat} {b : List Nat} (h : 48 ≤ x ∧ x ≤ 57) (g : AD b) : AD (x :: b) := fun y hy => by
  rcases List.mem_cons.mp hy with rfl | hy
  · exact h
  · exact g y hy
theorem AD.drop {b : List Nat} (h : AD b) (k : Nat) : AD (b.drop k) := fun y hy => h y (List.mem_of_mem_drop hy)

theorem V_append (a b : List Nat) : V (a ++ b) = V a * 10 ^ b.length + V b := by
  induction a with
  | nil => simp [V]
  | cons x a ih => simp only [List.cons_append, V, ih, List.length_append, Nat.pow_add, Nat.add_mul, Nat.mul_assoc, Nat.add_assoc]
theorem V_snoc (a : List Nat) (x : Nat) : V (a ++ [x]) = V a * 10 + (x - 48) := by rw [V_append]; simp [V]
theorem V_take (b : List Nat) (k : Nat) (h : k < b.length) : V (b.take (k + 1)) = V (b.take k) * 10 + (b[k] - 48) := by
  rw [List.take_succ_eq_append_getElem h, V_snoc]
theorem V_take_mono (b : List Nat) {j k : Nat} (h : j ≤ k) : V (b.take j) ≤ V (b.take k) := by
  have e : b.take k = b.take j ++ (b.take k).drop j := by
    rw [show b.take j = (b.take k).take j by rw [List.take_take, Nat.min_eq_left h], List.take_append_drop]
  rw [e, V_append]
  have : 1 ≤ 10 ^ ((b.take k).drop j).length := Nat.one_le_pow _ _ (by omega)
  exact Nat.le_trans (Nat.le_mul_of_pos_right _ this) (Nat.le_add_right _ _)
theorem V_take_le (b : List Nat) (k : Nat) : V (b.take k) ≤ V b := by
  rcases Nat.lt_or_ge k b.length with h | h
  · have := V_take_mono b (Nat.le_of_lt h); rwa [List.take_length] at this
  · rw [List.take_of_length_le h]; exact Nat.le_refl _
theorem V_drop (b : List Nat) (k : Nat) (h : k < b.length) : V (b.drop k) = (b[k] - 48) * 10 ^ (b.length - (k + 1)) + V (b.drop (k + 1)) := by
  rw [List.drop_eq_getElem_cons h, V, List.length_drop]

theorem V_lt {b : List Nat} (h : AD b) : V b < 10 ^ b.length := by
  induction b with
  | nil => simp [V]
  | cons x b ih =>
    have h1 := h.cons
    have h2 := ih h1.2
    simp only [V, List.length_cons, Nat.pow_succ]
    have h3 : (x - 48) * 10 ^ b.length ≤ 9 * 10 ^ b.length := Nat.mul_le_mul_right _ (by omega)
    omega

theorem Cn.low {b : List Nat} (h : Cn b) (h2 : 2 ≤ b.length) : 10 ^ (b.length - 1) ≤ V b := by
  obtain ⟨ha, x, t, rfl, ht⟩ := h
  have h1 := ha.cons.1
  have hx : x ≠ 48 := by
    rcases ht with rfl | hx
    · simp at h2
    · exact hx
  simp only [V, List.length_cons, Nat.add_sub_cancel]
  have : 1 * 10 ^ t.length ≤ (x - 48) * 10 ^ t.length := Nat.mul_le_mul_right _ (by omega)
  omega

theorem Cn.pos {b : List Nat} (h : Cn b) : 1 ≤ b.length := by obtain ⟨_, x, t, rfl, _⟩ := h; simp
theorem cn_lt {a b : List Nat} (ha : Cn a) (hb : Cn b) (h : a.length < b.length) : V a < V b := by
  have h1 := V_lt ha.1
  have h0 := ha.pos
  have h2 := hb.low (by omega)
  have h3 : 10 ^ a.length ≤ 10 ^ (b.length - 1) := Nat.pow_le_pow_right (by omega) (by omega)
  omega

/-- The first unlike byte decides. -/
def lexL : List Nat → List Nat → Bool
  | [], [] => false
  | [], _ :: _ => true
  | _ :: _, [] => false
  | x :: a, y :: b => if x = y then lexL a b else decide (x < y)

theorem lex_val {a b : List Nat} (ha : AD a) (hb : AD b) (hl : a.length = b.length) : lexL a b = decide (V a < V b) := by
  induction a generalizing b with
  | nil =>
    cases b with
    | nil => simp [lexL, V]
    | cons y b => simp at hl
  | cons x a ih =>
    cases b with
    | nil => simp at hl
    | cons y b =>
      have hl' : a.length = b.length := by simpa using hl
      have hx := ha.cons
      have hy := hb.cons
      have la := V_lt hx.2
      have lb := V_lt hy.2
      simp only [lexL, V, hl']
      rw [hl'] at la
      by_cases e : x = y
      · subst e
        rw [if_pos rfl, ih hx.2 hy.2 hl', decide_eq_decide]
        omega
      · rw [if_neg e, decide_eq_decide]
        generalize 10 ^ b.length = P at *
        constructor
        · intro h
          have : (x - 48 + 1) * P ≤ (y - 48) * P := Nat.mul_le_mul_right _ (by omega)
          rw [Nat.add_mul] at this
          omega
        · intro h
          rcases Nat.lt_or_ge x y with h' | h'
          · exact h'
          · exfalso
            have : (y - 48 + 1) * P ≤ (x - 48) * P := Nat.mul_le_mul_right _ (by omega)
            rw [Nat.add_mul] at this
            omega

theorem ad_inj {a b : List Nat} (ha : AD a) (hb : AD b) (hl : a.length = b.length) (hv : V a = V b) : a = b := by
  induction a generalizing b with
  | nil =>
    cases b with
    | nil => rfl
    | cons y b => simp at hl
  | cons x a ih =>
    cases b with
    | nil => simp at hl
    | cons y b =>
      have hl' : a.length = b.length := by simpa using hl
      have hx := ha.cons
      have hy := hb.cons
      have la := V_lt hx.2
      have lb := V_lt hy.2
      simp only [V, hl'] at hv
      rw [hl'] at la
      have e : x = y := by
        generalize 10 ^ b.length = P at *
        rcases Nat.lt_trichotomy x y with h | h | h
        · exfalso
          have : (x - 48 + 1) * P ≤ (y - 48) * P := Nat.mul_le_mul_right _ (by omega)
          rw [Nat.add_mul] at this
          omega
        · exact h
        · exfalso
          have : (y - 48 + 1) * P ≤ (x - 48) * P := Nat.mul_le_mul_right _ (by omega)
          rw [Nat.add_mul] at this
          omega
      subst e
      rw [ih hx.2 hy.2 hl' (by omega)]

theorem cn_inj {a b : List Nat} (ha : Cn a) (hb : Cn b) (hv : V a = V b) : a = b := by
  rcases Nat.lt_trichotomy a.length b.length with h | h | h
  · have := cn_lt ha hb h; omega
  · exact ad_inj ha.1 hb.1 h hv
  · have := cn_lt hb ha h; omega

/-- Zeros dropped from the front. -/
theorem canon_step (s : List Nat) (j : Nat) (h : j + 1 < s.length) (h0 : s[j] = 48) : V (s.drop (j + 1)) = V (s.drop j) := by
  rw [V_drop s j (by omega), h0]; simp
theorem cn_drop (s : List Nat) (j : Nat) (ha : AD s) (hj : j < s.length) (h : j + 1 = s.length ∨ s[j] ≠ 48) : Cn (s.drop j) := by
  refine ⟨ha.drop j, s[j], s.drop (j + 1), List.drop_eq_getElem_cons hj, ?_⟩
  rcases h with h | h
  · left; simp; omega
  · exact .inr h

instance (b : List Nat) : Decidable (AD b) := by unfold AD; infer_instance
/-- What both readings answer. -/
def okD (s : List Nat) (lim : Nat) : Bool := decide (s ≠ [] ∧ AD s ∧ V s < lim)
def valD (s : List Nat) (lim : Nat) : Nat := if okD s lim then V s else 0

/-! ### the bytes of a string -/
def bs (s : ByteArray) : List Nat := s.data.toList.map UInt8.toNat
theorem bs_length (s : ByteArray) : (bs s).length = s.size := by cases s; simp [bs, ByteArray.size]
theorem bs_get (s : ByteArray) (k : Nat) (h : k < s.size) : (bs s)[k]'(by rw [bs_length]; exact h) = s[k].toNat := by
  cases s
  simp only [bs, List.getElem_map]
  rfl
theorem toNat_inj : ∀ {a b : List UInt8}, a.map UInt8.toNat = b.map UInt8.toNat → a = b
  | [], [], _ => rfl
  | [], _ :: _, h => by simp at h
  | _ :: _, [], h => by simp at h
  | x :: a, y :: b, h => by
    simp only [List.map_cons, List.cons.injEq] at h
    rw [UInt8.toNat_inj.mp h.1, toNat_inj h.2]
theorem bs_inj {a b : ByteArray} (h : bs a = bs b) : a = b := by
  cases a; cases b
  have h1 := toNat_inj h
  simp at h1
  rw [h1]
theorem bs_extract (s : ByteArray) (j : Nat) : bs (s.extract j s.size) = (bs s).drop j := by
  cases s with
  | mk d =>
    simp [bs, ByteArray.size]
    rw [List.take_of_length_le]
    simp
theorem bs_lt (s : ByteArray) (k : Nat) (h : k < s.size) : s[k].toNat < 256 := UInt8.toNat_lt _
end Go.Proofs.Qxb6621696a
