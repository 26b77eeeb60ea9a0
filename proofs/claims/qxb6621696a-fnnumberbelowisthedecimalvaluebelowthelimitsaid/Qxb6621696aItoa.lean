import Derived.Test.Qxb6621696aSmall
import Derived.Deep.CutBlock
import Derived.Deep.DeepCutAuto
namespace Go.Proofs.Qxb6621696a
open Go.ChangeShapes Go.WideShapes Go.ChangeAt Go.RowKit

/-! ### b1Itoa -/
def Z20 : Array Value := Array.replicate 20 (.int .u8 0)
theorem zero34 (w : World) : (zeroValue 34).run Try.prog w = .ok (.agg Z20) w := by kernel_rfl

def RowOf (w : World) (b : Nat) (t : TypeId) (m : Nat) : Prop := ∃ cur, w.heap[b]? = some (.cells cur t (0, 0)) ∧ cur.size = m
theorem RowOf.cell {w : World} {b t m : Nat} (h : RowOf w b t m) (j : Nat) (hj : j < m) : ∃ v, w.cell? ⟨b, j, none⟩ = some v := by
  obtain ⟨cur, h1, h2⟩ := h
  exact ⟨cur[j]'(by omega), by simp [World.cell?, h1]⟩
theorem RowOf.frozen {w : World} {b t m : Nat} (h : RowOf w b t m) (j : Nat) : w.frozen? ⟨b, j, none⟩ = false := by
  obtain ⟨cur, h1, h2⟩ := h
  simp [World.frozen?, h1]
theorem RowOf.setCell {w : World} {b t m : Nat} (h : RowOf w b t m) (j : Nat) (v : Value) : RowOf (w.setCell ⟨b, j, none⟩ v) b t m := by
  obtain ⟨cur, h1, h2⟩ := h
  refine ⟨cur.setIfInBounds j v, ?_, by simp [h2]⟩
  simp [World.setCell, Array.getElem?_modify, h1]
theorem cell_set_other {w : World} {b j i : Nat} {v : Value} (h : j ≠ i) : (w.setCell ⟨b, j, none⟩ v).cell? ⟨b, i, none⟩ = w.cell? ⟨b, i, none⟩ :=
  World.cell?_setCell_other _ _ _ _ (fun e => h (Addr.mk.inj e).2.1)
theorem cell_set_same {w : World} {b j : Nat} {u v : Value} (h : w.cell? ⟨b, j, none⟩ = some u) : (w.setCell ⟨b, j, none⟩ v).cell? ⟨b, j, none⟩ = some v :=
  World.cell?_setCell_same _ _ _ h

/-- The bytes t lie in block b from place i on. -/
def TextAt (w : World) (b i : Nat) (t : List Nat) : Prop := ∀ j (h : j < t.length), w.cell? ⟨b, i + j, none⟩ = some (.int .u8 (t[j] : Nat))
theorem TextAt.push {w : World} {b i x : Nat} {t : List Nat} {u v : Value} (h : TextAt w b (i + 1) t) (hu : w.cell? ⟨b, i, none⟩ = some u) (hv : v = .int .u8 (x : Nat)) : TextAt (w.setCell ⟨b, i, none⟩ v) b i (x :: t) := by
  subst hv
  intro j hj
  match j, hj with
  | 0, _ => exact cell_set_same hu
  | j + 1, hj =>
    rw [cell_set_other (by omega), show i + (j + 1) = i + 1 + j by omega]
    exact h j (by simpa using hj)

structure ItState (n x i : Nat) (t : List Nat) : Prop where
  len : i + t.length = 20
  ad : AD t
  val : n = x * 10 ^ t.length + V t
  pos : t = [] ∨ 0 < x

theorem ItState.room {n x i : Nat} {t : List Nat} (h : ItState n x i t) (hn : n < 18446744073709551616) : 1 ≤ i := by
  rcases Nat.eq_zero_or_pos i with rfl | h0
  · exfalso
    have h1 := h.len
    have h2 : t.length = 20 := by omega
    rcases h.pos with rfl | hp
    · simp at h2
    · have h3 := h.val
      rw [h2] at h3
      omega
  · exact h0
theorem ItState.step {n x i : Nat} {t : List Nat} (h : ItState n x (i + 1) t) (hx : x / 10 ≠ 0) : ItState n (x / 10) i ((48 + x % 10) :: t) := by
  refine ⟨by have := h.len; simp; omega, .mk (by omega) h.ad, ?_, .inr (by omega)⟩
  rw [h.val, List.length_cons, Nat.pow_succ, V, show 48 + x % 10 - 48 = x % 10 by omega]
  generalize 10 ^ t.length = P
  have : x * P = (x / 10 * 10 + x % 10) * P := by rw [Nat.div_add_mod']
  rw [this, Nat.add_mul, Nat.mul_assoc, Nat.mul_comm 10 P]
  omega
theorem ItState.last {n x i : Nat} {t : List Nat} (h : ItState n x (i + 1) t) (hx : x / 10 = 0) : i + ((48 + x % 10) :: t).length = 20 ∧ Cn ((48 + x % 10) :: t) ∧ V ((48 + x % 10) :: t) = n := by
  refine ⟨by have := h.len; simp; omega, ⟨.mk (by omega) h.ad, _, _, rfl, ?_⟩, ?_⟩
  · rcases h.pos with rfl | hp
    · exact .inl rfl
    · right; omega
  · rw [h.val, V, show 48 + x % 10 - 48 = x by omega]

theorem text_bs (t : List Nat) (h : AD t) : bs ⟨(t.map UInt8.ofNat).toArray⟩ = t := by
  unfold bs
  simp only [List.map_map]
  rw [List.map_congr_left (g := id)]
  · simp
  · intro x hx
    have := h x hx
    simp
    omega

set_option maxHeartbeats 1000000 in
set_option maxRecDepth 20000 in
theorem itoa_any (n : Nat) (w : World) (hn : n < 18446744073709551616) :
    Calls Try.prog 9 #[.int .u64 n] w fun e w' => ∃ c, e = .returned (.string c) ∧ Below w.heap.size w w' ∧ c.size ≤ 20 ∧ Cn (bs c) ∧ V (bs c) = n := by
  have hz := zero34
  go_enter Try.func9, Try.ntmps9
  go_upto_block 0 with fail
  go_cut [0, 4] (fun _ iv wr => ∃ (i : Nat) (t : List Nat), iv = .int .i64 i ∧ i ≤ 20 ∧ Hid (i + t.length = 20) ∧ Hid (Cn t ∧ V t = n) ∧ Hid (TextAt wr w.heap.size i t) ∧ Below w.heap.size w wr)
  case first =>
    go_wp2
    go_loopg [0, 4] 20 (fun gk nv iv wr => ∃ (x i : Nat) (t : List Nat), Hid (gk = i) ∧ nv = .int .u64 x ∧ iv = .int .i64 i ∧ x < 18446744073709551616 ∧ Hid (ItState n x i t) ∧ RowOf wr w.heap.size 34 20 ∧ Hid (TextAt wr w.heap.size i t) ∧ Below w.heap.size w wr)
    case atStart => exact ⟨n, 20, [], rfl, rfl, rfl, hn, ⟨rfl, fun x hx => absurd hx (by simp), by simp [V], .inl rfl⟩, ⟨Z20, heap_alloc_new _ _, by simp [Z20]⟩, fun j hj => absurd hj (by simp), (Below.refl _ _).alloc (Nat.le_refl _) _⟩
    case round =>
      obtain ⟨x, i, t, hk, rfl, rfl, hx, hst, hrow, htx, hbel⟩ := hrel
      have h1 := hst.out.room hn
      have h20 : i ≤ 20 := by have := hst.out.len; omega
      obtain ⟨i, rfl⟩ : ∃ k, i = k + 1 := ⟨i - 1, by omega⟩
      have hi : i < 20 := by omega
      have hiI : (i : Int) < 20 := by omega
      obtain ⟨u0, d0⟩ := hrow.cell i hi
      have f0 := hrow.frozen i
      by_cases hq : x / 10 = 0
      · have Hl := hst.out.last hq
        have hqd : ((x : Int) / 10 == 0) = true := by simp; omega
        go_wp2
        go_meet
        case rel => exact ⟨i, (48 + x % 10) :: t, by go_num, by omega, Hl.1, Hl.2, htx.out.push d0 (by go_num), hbel.setCell (Nat.le_refl _) _⟩
      · have Hl := hst.out.step hq
        have hqd : ((x : Int) / 10 == 0) = false := by simp; omega
        go_wp2
        go_roundg i
        case measure => have := hk.out; omega
        case rel => exact ⟨x / 10, i, (48 + x % 10) :: t, rfl, by go_num, by go_num, by omega, Hl, hrow.setCell _ _, htx.out.push d0 (by go_num), hbel.setCell (Nat.le_refl _) _⟩
  case rest =>
    obtain ⟨i, t, rfl, hi, hl, hc, ht, hbel⟩ := hcut
    have hiI : (i : Int) ≤ 20 := by omega
    have hne : ¬ 20 = i := by have h1 := hc.out.1.pos; have h2 := hl.out; omega
    have hcv := run_convert_bytes_back (P := Try.prog) wc 35 9 5 ⟨w.heap.size, i, none⟩ (20 - i) (t.map UInt8.ofNat) Try.underlying35 Try.underlying5 Try.underlying9 (fun j hj => by
      have hj' : j < t.length := by simpa using hj
      have h0 := ht.out j hj'
      have h1 := hc.out.1.1 _ (List.getElem_mem hj')
      rw [add_plain, h0]
      simp
      omega)
    rw [List.length_map, show t.length = 20 - i by have := hl.out; omega] at hcv
    go_wp2
    go_ret
    have hb := text_bs t hc.out.1.1
    refine ⟨_, rfl, hbel, ?_, by rw [hb]; exact hc.out.1, by rw [hb]; exact hc.out.2⟩
    have := bs_length ⟨(t.map UInt8.ofNat).toArray⟩
    rw [hb] at this
    have := hl.out
    omega
end Go.Proofs.Qxb6621696a
