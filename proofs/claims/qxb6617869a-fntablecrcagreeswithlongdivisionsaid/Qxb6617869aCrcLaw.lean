/- The plain law: the table-driven CRC is the remainder of the long division. -/
import Derived.Test.Qxb6617869aTable
namespace Go.Proofs.Qxb6617869a

theorem top_iff (c : Nat) : (c &&& 32768 = 0) ↔ c.testBit 15 = false := by
  have h := nat_bit 15 c
  rw [show (2 : Nat) ^ 15 = 32768 from rfl] at h
  rw [h, Nat.testBit_eq_decide_div_mod_eq]
  simp only [decide_eq_false_iff_not, show (2 : Nat) ^ 15 = 32768 from rfl]
  have := Nat.mod_lt (c / 32768) (show 0 < 2 by omega)
  omega

theorem shl_bit (c i : Nat) : (c * 2 % 65536).testBit i = (decide (i < 16) && (decide (0 < i) && c.testBit (i - 1))) := by
  have e : c * 2 % 65536 = (c <<< 1) % 2 ^ 16 := by rw [Nat.shiftLeft_eq]
  rw [e, Nat.testBit_mod_two_pow, Nat.testBit_shiftLeft]
  rfl

theorem step_bit (c i : Nat) : (step c).testBit i = ((decide (i < 16) && (decide (0 < i) && c.testBit (i - 1))) ^^ (c.testBit 15 && Nat.testBit 4129 i)) := by
  unfold step
  by_cases h : c &&& 32768 = 0
  · rw [if_pos h, shl_bit, (top_iff c).1 h]; simp
  · have h1 : c.testBit 15 = true := by
      cases hb : c.testBit 15 with
      | true => rfl
      | false => exact absurd ((top_iff c).2 hb) h
    rw [if_neg h, Nat.testBit_xor, shl_bit, h1]; simp

theorem step_xor (a b : Nat) : step (a ^^^ b) = step a ^^^ step b := by
  apply Nat.eq_of_testBit_eq
  intro i
  rw [Nat.testBit_xor, step_bit, step_bit, step_bit, Nat.testBit_xor, Nat.testBit_xor]
  generalize a.testBit (i - 1) = x
  generalize b.testBit (i - 1) = y
  generalize a.testBit 15 = u
  generalize b.testBit 15 = v
  generalize Nat.testBit 4129 i = t
  generalize decide (i < 16) = d1
  generalize decide (0 < i) = d2
  cases x <;> cases y <;> cases u <;> cases v <;> cases t <;> cases d1 <;> cases d2 <;> rfl

theorem it_xor (a b : Nat) : ∀ j, it (a ^^^ b) j = it a j ^^^ it b j
  | 0 => rfl
  | j + 1 => by rw [it, it, it, it_xor a b j, step_xor]

theorem step_small (x : Nat) (h : x < 32768) : step x = x * 2 := by
  have hb : x.testBit 15 = false := Nat.testBit_lt_two_pow h
  unfold step
  rw [if_pos ((top_iff x).2 hb)]
  omega

theorem it_low (lo : Nat) (h : lo < 256) : ∀ j, j ≤ 8 → it lo j = lo * 2 ^ j
  | 0, _ => by simp [it]
  | j + 1, hj => by
    rw [it, it_low lo h j (by omega), step_small]
    · rw [Nat.pow_succ, Nat.mul_assoc]
    · have : 2 ^ j ≤ 2 ^ 7 := Nat.pow_le_pow_right (by omega) (by omega)
      have : lo * 2 ^ j ≤ lo * 2 ^ 7 := Nat.mul_le_mul_left _ this
      omega

/-- one byte by the table -/
def crcB (c d : Nat) : Nat := (c * 256 % 65536) ^^^ tab ((c / 256) ^^^ d)

theorem join_xor (x y i : Nat) (h : y < 2 ^ i) : x * 2 ^ i + y = (x * 2 ^ i) ^^^ y := by
  have h1 : (x * 2 ^ i) ||| y = x * 2 ^ i + y := nat_join i _ y (by simp) h
  rw [← h1]
  apply Nat.eq_of_testBit_eq
  intro k
  rw [Nat.testBit_or, Nat.testBit_xor, ← Nat.shiftLeft_eq, Nat.testBit_shiftLeft]
  by_cases hk : i ≤ k
  · have : y.testBit k = false := Nat.testBit_lt_two_pow (Nat.lt_of_lt_of_le h (Nat.pow_le_pow_right (by omega) hk))
    rw [this]; simp
  · simp [hk]

theorem mul_xor (a b i : Nat) : (a ^^^ b) * 2 ^ i = (a * 2 ^ i) ^^^ (b * 2 ^ i) := by
  rw [← Nat.shiftLeft_eq, ← Nat.shiftLeft_eq, ← Nat.shiftLeft_eq]
  apply Nat.eq_of_testBit_eq
  intro k
  rw [Nat.testBit_xor, Nat.testBit_shiftLeft, Nat.testBit_shiftLeft, Nat.testBit_shiftLeft, Nat.testBit_xor]
  cases decide (k ≥ i) <;> simp

theorem crcB_it (c d : Nat) (hc : c < 65536) (hd : d < 256) : crcB c d = it (c ^^^ (d * 256)) 8 := by
  have hidx : (c / 256) ^^^ d < 2 ^ 8 := Nat.xor_lt_two_pow (n := 8) (by omega) (by omega)
  have e1 : c = (c / 256 * 2 ^ 8) ^^^ (c % 256) := by
    rw [← join_xor (c / 256) (c % 256) 8 (by omega)]
    omega
  have e2 : c ^^^ (d * 256) = (((c / 256) ^^^ d) * 2 ^ 8) ^^^ (c % 256) := by
    rw [mul_xor, show d * 256 = d * 2 ^ 8 from rfl]
    rw [show c ^^^ d * 2 ^ 8 = ((c / 256 * 2 ^ 8) ^^^ (c % 256)) ^^^ d * 2 ^ 8 by rw [← e1]]
    rw [Nat.xor_assoc, Nat.xor_comm (c % 256), ← Nat.xor_assoc]
  rw [e2, it_xor, it_low (c % 256) (by omega) 8 (Nat.le_refl _)]
  unfold crcB tab
  rw [Nat.xor_comm]
  congr 1
  · rw [Nat.mod_eq_of_lt (by omega)]
  · omega

theorem crcB_lt (c d : Nat) : crcB c d < 65536 := by
  unfold crcB
  exact Nat.xor_lt_two_pow (n := 16) (by omega) (tab_lt' _)
where
  tab_lt' (i : Nat) : tab i < 2 ^ 16 := it_lt _ (by omega) 8

def crcs (c : Nat) (ds : List Nat) : Nat := ds.foldl crcB c
theorem crcs_lt : ∀ (ds : List Nat) (c : Nat), c < 65536 → crcs c ds < 65536
  | [], _, h => h
  | d :: ds, c, _ => by
    show crcs (crcB c d) ds < 65536
    exact crcs_lt ds _ (crcB_lt c d)
theorem crcs_take (c : Nat) (ds : List Nat) (k : Nat) (h : k < ds.length) : crcs c (ds.take (k + 1)) = crcB (crcs c (ds.take k)) ds[k] := by
  unfold crcs
  rw [List.take_succ_eq_append_getElem h, List.foldl_append]
  rfl

/-! ### bit by bit -/
/-- the message's bits, behind them nothing but false -/
def mb (ds : List Nat) (k : Nat) : Bool := (ds.getD (k / 8) 0).testBit (7 - k % 8)
theorem mb_end (ds : List Nat) (k : Nat) (h : 8 * ds.length ≤ k) : mb ds k = false := by
  unfold mb
  have e : ds[k / 8]? = none := List.getElem?_eq_none (by omega)
  rw [List.getD_eq_getElem?_getD, e]
  simp

def b2n (b : Bool) : Nat := if b then 32768 else 0
def Cb (ds : List Nat) : Nat → Nat
  | 0 => 0
  | p + 1 => step (Cb ds p ^^^ b2n (mb ds p))
theorem Cb_lt (ds : List Nat) : ∀ p, Cb ds p < 65536
  | 0 => by simp [Cb]
  | _ + 1 => step_lt _

theorem Cb_byte (ds : List Nat) (k : Nat) (hk : k < ds.length) (hd : ds[k] < 256) : ∀ t, t ≤ 8 → it (Cb ds (8 * k) ^^^ (ds[k] * 256)) t = Cb ds (8 * k + t) ^^^ (ds[k] * 256 * 2 ^ t % 65536)
  | 0, _ => by simp only [it, Nat.pow_zero, Nat.mul_one, Nat.add_zero]; rw [Nat.mod_eq_of_lt (by omega)]
  | t + 1, ht => by
    rw [it, Cb_byte ds k hk hd t (by omega)]
    have hm : mb ds (8 * k + t) = ds[k].testBit (7 - t) := by
      unfold mb
      rw [show (8 * k + t) / 8 = k by omega, show (8 * k + t) % 8 = t by omega, List.getD_eq_getElem?_getD, List.getElem?_eq_getElem hk, Option.getD_some]
    have hY : ds[k] * 256 * 2 ^ t % 65536 = b2n (mb ds (8 * k + t)) ^^^ (ds[k] * 256 * 2 ^ t % 32768) := by
      generalize hy : ds[k] * 256 * 2 ^ t = y
      have h15 : y.testBit 15 = mb ds (8 * k + t) := by
        rw [hm, ← hy, show ds[k] * 256 * 2 ^ t = ds[k] <<< (8 + t) by rw [Nat.shiftLeft_eq, Nat.pow_add, Nat.mul_assoc], Nat.testBit_shiftLeft]
        rw [show 15 - (8 + t) = 7 - t by omega]
        simp; omega
      rw [← h15]
      have e : y % 65536 = (y / 32768 % 2) * 2 ^ 15 + y % 32768 := by omega
      rw [e, join_xor _ _ 15 (by omega)]
      congr 1
      rw [Nat.testBit_eq_decide_div_mod_eq, show (2 : Nat) ^ 15 = 32768 from rfl]
      unfold b2n
      have := Nat.mod_lt (y / 32768) (show 0 < 2 by omega)
      by_cases hh : y / 32768 % 2 = 1
      · simp [hh]
      · have h0 : y / 32768 % 2 = 0 := by omega
        simp [h0]
    rw [hY, ← Nat.xor_assoc, step_xor, step_small (ds[k] * 256 * 2 ^ t % 32768) (by omega)]
    show Cb ds (8 * k + t + 1) ^^^ _ = Cb ds (8 * k + (t + 1)) ^^^ _
    congr 1
    rw [Nat.pow_succ, ← Nat.mul_assoc]
    omega

theorem Cb_crc (ds : List Nat) (hd : ∀ k (h : k < ds.length), ds[k] < 256) : ∀ k, k ≤ ds.length → Cb ds (8 * k) = crcs 0 (ds.take k)
  | 0, _ => by simp [Cb, crcs]
  | k + 1, h => by
    have h1 := Cb_byte ds k (by omega) (hd k (by omega)) 8 (Nat.le_refl _)
    rw [show ds[k] * 256 * 2 ^ 8 % 65536 = 0 by omega, Nat.xor_zero, ← crcB_it _ _ (Cb_lt ds _) (hd k (by omega))] at h1
    rw [show 8 * (k + 1) = 8 * k + 8 by omega, ← h1, Cb_crc ds hd k (by omega), crcs_take 0 ds k (by omega)]

/-! ### the long division -/
/-- the poly's bit at offset j -/
def pb (j : Nat) : Bool := Nat.testBit 69665 (16 - j)
/-- the row while position p is worked at, offsets below j done -/
def Bin (f : Nat → Bool) (p j : Nat) : Nat → Bool := fun x => if decide (p ≤ x) && decide (x < p + j) && pb (x - p) then !f x else f x
def Bd (ds : List Nat) : Nat → Nat → Bool
  | 0 => mb ds
  | p + 1 => if Bd ds p p then Bin (Bd ds p) p 17 else Bd ds p

theorem Bd_inv (ds : List Nat) : ∀ p, (∀ j, j < 16 → Bd ds p (p + j) = ((Cb ds p).testBit (15 - j) ^^ mb ds (p + j))) ∧ ∀ k, p + 16 ≤ k → Bd ds p k = mb ds k
  | 0 => by
    refine ⟨fun j hj => ?_, fun k _ => rfl⟩
    simp [Bd, Cb]
  | p + 1 => by
    obtain ⟨ih1, ih2⟩ := Bd_inv ds p
    have htop : Bd ds p p = ((Cb ds p).testBit 15 ^^ mb ds p) := by simpa using ih1 0 (by omega)
    have hk : ∀ k, p + 1 ≤ k → Bd ds (p + 1) k = (Bd ds p k ^^ (Bd ds p p && (decide (k < p + 17) && pb (k - p)))) := by
      intro k hk
      rw [Bd]
      cases hb : Bd ds p p with
      | false => simp
      | true =>
        simp only [if_true]
        unfold Bin
        rw [show decide (p ≤ k) = true by simp; omega]
        by_cases h1 : (decide (k < p + 17) && pb (k - p)) = true
        · simp [h1]
        · have h2 : (decide (k < p + 17) && pb (k - p)) = false := by simpa using h1
          simp [h2]
    have htb : (Cb ds p ^^^ b2n (mb ds p)).testBit 15 = Bd ds p p := by
      rw [Nat.testBit_xor, htop]
      congr 1
      unfold b2n
      cases mb ds p <;> decide
    refine ⟨fun j hj => ?_, fun k hk2 => ?_⟩
    · rw [hk _ (by omega), show (Cb ds (p + 1)) = step (Cb ds p ^^^ b2n (mb ds p)) from rfl, step_bit, htb]
      have e1 : pb (p + 1 + j - p) = Nat.testBit 4129 (15 - j) := by
        unfold pb
        rw [show 16 - (p + 1 + j - p) = 15 - j by omega]
        have : ∀ i, i < 16 → Nat.testBit 69665 i = Nat.testBit 4129 i := by decide
        exact this _ (by omega)
      rw [e1, show decide (p + 1 + j < p + 17) = true by simp; omega, show decide (15 - j < 16) = true by simp; omega]
      have e2 : Bd ds p (p + 1 + j) = ((decide (0 < 15 - j) && (Cb ds p ^^^ b2n (mb ds p)).testBit (15 - j - 1)) ^^ mb ds (p + 1 + j)) := by
        by_cases hj15 : j = 15
        · subst hj15
          rw [ih2 _ (by omega)]
          simp
        · have h3 := ih1 (j + 1) (by omega)
          rw [show p + (j + 1) = p + 1 + j by omega] at h3
          rw [h3, show decide (0 < 15 - j) = true by simp; omega, Nat.testBit_xor, show 15 - j - 1 = 15 - (j + 1) by omega]
          have h4 : (b2n (mb ds p)).testBit (15 - (j + 1)) = false := by
            unfold b2n
            split
            · rw [show (32768 : Nat) = 2 ^ 15 from rfl, Nat.testBit_two_pow]
              simp; omega
            · simp
          rw [h4]
          simp
      rw [e2]
      generalize (decide (0 < 15 - j) && (Cb ds p ^^^ b2n (mb ds p)).testBit (15 - j - 1)) = x
      generalize mb ds (p + 1 + j) = y
      generalize Bd ds p p = z
      generalize Nat.testBit 4129 (15 - j) = t
      cases x <;> cases y <;> cases z <;> cases t <;> rfl
    · rw [hk k (by omega), ih2 k (by omega), show decide (k < p + 17) = false by simp; omega]
      simp

/-- the remainder, gathered bit by bit -/
def remB (f : Nat → Bool) (s : Nat) : Nat → Nat
  | 0 => 0
  | j + 1 => if f (s + j) then (remB f s j * 2) ||| 1 else remB f s j * 2
theorem remB_eq (C : Nat) (hC : C < 65536) (f : Nat → Bool) (s : Nat) (hf : ∀ j, j < 16 → f (s + j) = C.testBit (15 - j)) : ∀ j, j ≤ 16 → remB f s j = C / 2 ^ (16 - j)
  | 0, _ => by simp [remB]; omega
  | j + 1, h => by
    rw [remB, remB_eq C hC f s hf j (by omega), hf j (by omega), Nat.testBit_eq_decide_div_mod_eq]
    have e : C / 2 ^ (16 - j) = C / 2 ^ (15 - j) / 2 := by
      rw [Nat.div_div_eq_div_mul, ← Nat.pow_succ, show (15 - j).succ = 16 - j by omega]
    rw [e, show 16 - (j + 1) = 15 - j by omega]
    generalize C / 2 ^ (15 - j) = y
    by_cases hy : y % 2 = 1
    · rw [if_pos (by simpa using hy)]
      have := nat_join 1 (y / 2 * 2) 1 (by omega) (by omega)
      rw [this]; omega
    · rw [if_neg (by simpa using hy)]; omega

theorem rem_crc (ds : List Nat) (hd : ∀ k (h : k < ds.length), ds[k] < 256) : remB (Bd ds (8 * ds.length)) (8 * ds.length) 16 = crcs 0 ds := by
  have h1 := (Bd_inv ds (8 * ds.length)).1
  have h2 := remB_eq (Cb ds (8 * ds.length)) (Cb_lt ds _) (Bd ds (8 * ds.length)) (8 * ds.length) (fun j hj => by rw [h1 j hj, mb_end ds _ (by omega)]; simp) 16 (Nat.le_refl _)
  rw [h2, Cb_crc ds hd ds.length (Nat.le_refl _), List.take_length]
  simp

theorem remB_lt (f : Nat → Bool) (s : Nat) : ∀ j, remB f s j < 2 ^ j
  | 0 => by simp [remB]
  | j + 1 => by
    have ih := remB_lt f s j
    rw [remB, Nat.pow_succ]
    split
    · have := nat_join 1 (remB f s j * 2) 1 (by omega) (by omega)
      rw [this]; omega
    · omega

theorem tab_zero : tab 0 = 0 := by decide
/-- the two bytes of the CRC, fed behind the message -/
theorem tail_zero (c : Nat) : crcs c [c / 256, c % 256] = 0 := by
  show crcB (crcB c (c / 256)) (c % 256) = 0
  have h1 : crcB c (c / 256) = c * 256 % 65536 := by
    unfold crcB
    rw [Nat.xor_self, tab_zero, Nat.xor_zero]
  rw [h1]
  unfold crcB
  rw [show c * 256 % 65536 / 256 = c % 256 by omega, Nat.xor_self, tab_zero, Nat.xor_zero]
  omega
end Go.Proofs.Qxb6617869a
