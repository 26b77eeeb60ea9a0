import Derived.Test.Qxb6617869aRows
import Derived.WalkKit
import Derived.ProofKit
import Derived.BigQuiet
import Derived.Deep.QuietTactic
import Derived.Deep.LoopGhost
import Derived.WalkSmall
import Derived.Laws.BitsAllLaws
import Derived.Laws.Pointers
namespace Go.Proofs.Qxb6617869a
open Go.ChangeShapes Go.WideShapes Go.ChangeAt Go.RowKit

/-! ### the plain functions -/
def step (c : Nat) : Nat := if c &&& 32768 = 0 then c * 2 % 65536 else (c * 2 % 65536) ^^^ 4129
def it : Nat → Nat → Nat
  | c, 0 => c
  | c, j + 1 => step (it c j)
def tab (i : Nat) : Nat := it (i * 256 % 65536) 8
def clm (q p : Nat) : Nat → Nat
  | 0 => 0
  | j + 1 => if q / 2 ^ j % 2 = 1 then clm q p j ^^^ (p * 2 ^ j % 4294967296) else clm q p j

theorem step_lt (c : Nat) : step c < 65536 := by
  unfold step
  split
  · omega
  · exact Nat.xor_lt_two_pow (n := 16) (by omega) (by omega)
theorem it_lt (c : Nat) (h : c < 65536) : ∀ j, it c j < 65536
  | 0 => h
  | _ + 1 => step_lt _
theorem clm_lt (q p : Nat) : ∀ j, clm q p j < 4294967296
  | 0 => by simp [clm]
  | j + 1 => by
    unfold clm
    split
    · exact Nat.xor_lt_two_pow (n := 32) (clm_lt q p j) (by omega)
    · exact clm_lt q p j

/-! ### clmul8 -/
set_option maxHeartbeats 1000000 in
theorem clmul_any (q p : Nat) (w : World) (h2 : q < 4294967296) (_ : p < 4294967296) :
    Calls Try.prog 6 #[.int .u32 q, .int .u32 p] w fun e w' => e = .returned (.int .u32 (clm q p 8 : Nat)) ∧ w' = w := by
  go_enter Try.func6, Try.ntmps6
  go_wp2
  go_loopg [5, 6] 8 (fun gk rv jv wr => ∃ (j : Nat), Hid (j + gk = 8) ∧ rv = .int .u32 (clm q p j : Nat) ∧ jv = .int .i64 j ∧ wr = w)
  case atStart => exact ⟨0, rfl, rfl, rfl, rfl⟩
  case round =>
    obtain ⟨j, hj, rfl, rfl, rfl⟩ := hrel
    by_cases hlt : j < 8
    · have hjI : (j : Int) < 8 := by omega
      have hq : q / 2 ^ j < 4294967296 := Nat.lt_of_le_of_lt (Nat.div_le_self _ _) h2
      have HA : Hid (bits .and .u32 ((q / 2 ^ j : Nat) : Int) 1 = ((q / 2 ^ j % 2 : Nat) : Int)) := by
        show _ = _
        rw [← nat_mask1]
        exact u32_and_nat _ 1 hq (by omega)
      have HC : Hid (((q : Int) / 2 ^ j) = ((q / 2 ^ j : Nat) : Int)) := by show _ = _; simp
      have HX : Hid (bits .xor .u32 (clm q p j : Nat) ((p : Int) * 2 ^ j % 4294967296) = ((clm q p j ^^^ (p * 2 ^ j % 4294967296) : Nat) : Int)) := by
        show _ = _
        rw [← u32_xor_nat _ _ (clm_lt q p j) (by omega)]
        congr 1
      by_cases hb : q / 2 ^ j % 2 = 1
      · have hd : (bits .and .u32 ((q : Int) / 2 ^ j) 1 == 1) = true := by rw [HC.out, HA.out, hb]; rfl
        have HS : Hid (clm q p (j + 1) = clm q p j ^^^ (p * 2 ^ j % 4294967296)) := by show _ = _; rw [clm, if_pos hb]
        clear hb
        go_wp2
        go_roundg (8 - (j + 1))
        case measure => have := hj.out; omega
        case rel => exact ⟨j + 1, by have := hj.out; show _ = _; omega, by rw [HS.out, HX.out], by go_num, rfl⟩
      · have hb0 : q / 2 ^ j % 2 = 0 := by omega
        have hd : (bits .and .u32 ((q : Int) / 2 ^ j) 1 == 1) = false := by rw [HC.out, HA.out, hb0]; rfl
        have HS : Hid (clm q p (j + 1) = clm q p j) := by show _ = _; rw [clm, if_neg hb]
        clear hb hb0
        go_wp2
        go_roundg (8 - (j + 1))
        case measure => have := hj.out; omega
        case rel => exact ⟨j + 1, by have := hj.out; show _ = _; omega, by rw [HS.out], by go_num, rfl⟩
    · have hje : j = 8 := by have := hj.out; omega
      subst hje
      go_wp2
      go_ret
      exact ⟨rfl, rfl⟩

/-! ### makeTable -/
def Z256 : Array Value := Array.replicate 256 (.int .u16 0)
theorem zero33 (w : World) : (zeroValue 33).run Try.prog w = .ok (.agg Z256) w := by kernel_rfl

def RowOf (w : World) (b : Nat) (t : TypeId) (m : Nat) : Prop := ∃ cur, w.heap[b]? = some (.cells cur t (0, 0)) ∧ cur.size = m
theorem RowOf.cell {w : World} {b t m : Nat} (h : RowOf w b t m) (j : Nat) (hj : j < m) : ∃ v, w.cell? ⟨b, j, none⟩ = some v := by
  obtain ⟨cur, h1, h2⟩ := h
  exact ⟨cur[j]'(by omega), by simp [World.cell?, h1]⟩
theorem RowOf.frozen {w : World} {b t m : Nat} (h : RowOf w b t m) (j : Nat) : w.frozen? ⟨b, j, none⟩ = false := by
  obtain ⟨cur, h1, h2⟩ := h
  simp [World.frozen?, h1]
theorem RowOf.lt {w : World} {b t m : Nat} (h : RowOf w b t m) : b < w.heap.size := by
  obtain ⟨cur, h1, h2⟩ := h
  exact (Array.getElem?_eq_some_iff.1 h1).1
theorem RowOf.setCell {w : World} {b t m : Nat} (h : RowOf w b t m) (j : Nat) (v : Value) : RowOf (w.setCell ⟨b, j, none⟩ v) b t m := by
  obtain ⟨cur, h1, h2⟩ := h
  refine ⟨cur.setIfInBounds j v, ?_, by simp [h2]⟩
  simp [World.setCell, Array.getElem?_modify, h1]
theorem cell_set_other {w : World} {b j i : Nat} {v : Value} (h : j ≠ i) : (w.setCell ⟨b, j, none⟩ v).cell? ⟨b, i, none⟩ = w.cell? ⟨b, i, none⟩ :=
  World.cell?_setCell_other _ _ _ _ (fun e => h (Addr.mk.inj e).2.1)
theorem cell_set_same {w : World} {b j : Nat} {u v : Value} (h : w.cell? ⟨b, j, none⟩ = some u) : (w.setCell ⟨b, j, none⟩ v).cell? ⟨b, j, none⟩ = some v :=
  World.cell?_setCell_same _ _ _ h

def TabAt (w : World) (B n : Nat) : Prop := ∀ k, k < n → w.cell? ⟨B, k, none⟩ = some (.int .u16 (tab k : Nat))

set_option maxHeartbeats 1000000 in
theorem makeTable_any (w : World) :
    Calls Try.prog 9 #[] w fun e w' => e = .returned (.pointer (some ⟨w.heap.size, 0, none⟩)) ∧ Below w.heap.size w w' ∧ w.heap.size < w'.heap.size ∧ TabAt w' w.heap.size 256 := by
  have hz := zero33
  go_enter Try.func9, Try.ntmps9
  go_wp2
  go_loopg [5] 256 (fun gk iv wr => ∃ i : Nat, Hid (i + gk = 256) ∧ iv = .int .i64 i ∧ Below w.heap.size w wr ∧ RowOf wr w.heap.size 33 256 ∧ TabAt wr w.heap.size i)
  case atStart => exact ⟨0, rfl, rfl, (Below.refl _ _).alloc (Nat.le_refl _) _, ⟨Z256, heap_alloc_new _ _, by simp [Z256]⟩, fun k h => absurd h (by omega)⟩
  case round =>
    obtain ⟨i, hi, rfl, hbel, hrow, htab⟩ := hrel
    by_cases hlt : i < 256
    · have hiI : (i : Int) < 256 := by omega
      obtain ⟨u0, d0⟩ := hrow.cell i hlt
      have f0 := hrow.frozen i
      have HT : Hid (tab i = it (i * 256) 8) := by show _ = _; unfold tab; rw [Nat.mod_eq_of_lt (by omega)]
      have hc0 : i * 256 < 65536 := by omega
      go_wp2
      go_loopg [3, 11] 8 (fun gk cv jv wx => ∃ j : Nat, Hid (j + gk = 8) ∧ cv = .int .u16 (it (i * 256) j : Nat) ∧ jv = .int .i64 j ∧ wx = wr)
      case atStart => exact ⟨0, rfl, by simp [it], rfl, rfl⟩
      case round =>
        obtain ⟨j, hj, rfl, rfl, rfl⟩ := hrel
        have hcl := it_lt (i * 256) hc0 j
        have HS : Hid (it (i * 256) (j + 1) = step (it (i * 256) j)) := rfl
        by_cases hjl : j < 8
        · have hjI : (j : Int) < 8 := by omega
          generalize it (i * 256) j = c at *
          have HA : Hid (bits .and .u16 (c : Int) 32768 = ((c &&& 32768 : Nat) : Int)) := u16_and_nat c 32768 hcl (by omega)
          by_cases hb : c &&& 32768 = 0
          · have hd : (bits .and .u16 (c : Int) 32768 != 0) = false := by rw [HA.out, hb]; rfl
            have HV : Hid (step c = c * 2 % 65536) := by show _ = _; unfold step; rw [if_pos hb]
            clear hb
            go_wp2
            go_roundg (8 - (j + 1))
            case measure => have := hj.out; omega
            case rel => exact ⟨j + 1, by have := hj.out; show _ = _; omega, by rw [HS.out, HV.out]; go_num, by go_num, rfl⟩
          · have hd : (bits .and .u16 (c : Int) 32768 != 0) = true := by rw [HA.out]; simpa using hb
            have HV : Hid (step c = (c * 2 % 65536) ^^^ 4129) := by show _ = _; unfold step; rw [if_neg hb]
            have HX : Hid (bits .xor .u16 ((c : Int) * 2 % 65536) 4129 = (((c * 2 % 65536) ^^^ 4129 : Nat) : Int)) := u16_xor_nat (c * 2 % 65536) 4129 (by omega) (by omega)
            clear hb
            go_wp2
            go_roundg (8 - (j + 1))
            case measure => have := hj.out; omega
            case rel => exact ⟨j + 1, by have := hj.out; show _ = _; omega, by rw [HS.out, HV.out, IntKind.wrap_u16, HX.out], by go_num, rfl⟩
        · have hje : j = 8 := by have := hj.out; omega
          subst hje
          rw [← HT.out]
          go_wp2
          go_roundg (256 - (i + 1))
          case measure => have := hi.out; omega
          case rel =>
            refine ⟨i + 1, by have := hi.out; show _ = _; omega, by go_num, hbel.setCell (Nat.le_refl _) _, hrow.setCell _ _, fun k hk => ?_⟩
            by_cases e : k = i
            · subst e; exact cell_set_same d0
            · rw [cell_set_other (Ne.symm e)]
              exact htab k (by omega)
    · have hie : i = 256 := by have := hi.out; omega
      subst hie
      go_wp2
      go_ret
      exact ⟨rfl, hbel, hrow.lt, htab⟩

theorem zzMakeTable_any (w : World) :
    Calls Try.prog 5 #[] w fun e w' => e = .returned (.pointer (some ⟨w.heap.size, 0, none⟩)) ∧ Below w.heap.size w w' ∧ w.heap.size < w'.heap.size ∧ TabAt w' w.heap.size 256 := by
  go_enter Try.func5, Try.ntmps5
  go_wp2_with fail
  refine (makeTable_any _).mono ?_
  rintro e w' ⟨rfl, h1, h2, h3⟩
  go_wp2
  go_ret
  exact ⟨rfl, h1, h2, h3⟩

/-! ### the law, plainly -/
/-- the quotient's bits: where the top bit was set -/
def quo : Nat → Nat → Nat
  | _, 0 => 0
  | c, j + 1 => quo c j * 2 + (if it c j &&& 32768 = 0 then 0 else 1)
theorem quo_ok : ∀ i, i < 256 → quo (i * 256) 8 < 256 ∧ clm (quo (i * 256) 8) 69665 8 = (i * 65536) ^^^ tab i := by decide +kernel
end Go.Proofs.Qxb6617869a
