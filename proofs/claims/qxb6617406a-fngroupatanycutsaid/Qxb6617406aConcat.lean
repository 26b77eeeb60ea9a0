/- zzRangesConcat (function 21), where it says true. -/
import Derived.Test.Qxb6617406aHold
import Derived.Deep.LoopGhost
import Derived.WalkSmall
namespace Go.Proofs.Qxb6617406a
open Go.ChangeShapes Go.WideShapes Go.ChangeAt Go.RowKit

/-- the ranges rs lie from block g's head on -/
def RAt (w : World) (g : Nat) (rs : List (Int × Int)) : Prop :=
  ∀ j (h : j < rs.length), w.cell? ⟨g, j * 2, none⟩ = some (.int .u64 rs[j].1) ∧ w.cell? ⟨g, j * 2 + 1, none⟩ = some (.int .u64 rs[j].2)

theorem RAt.of_block {w w' : World} {g : Nat} {rs : List (Int × Int)} (h : RAt w g rs) (hb : w'.heap[g]? = w.heap[g]?) : RAt w' g rs := by
  intro i hi
  obtain ⟨h0, h1⟩ := h i hi
  exact ⟨(World.cell?_of_block hb).trans h0, (World.cell?_of_block hb).trans h1⟩

/-- the slice at a holds the ranges rs -/
def RR (w : World) (a : Option Addr) (rs : List (Int × Int)) : Prop := rs = [] ∨ ∃ g, a = some ⟨g, 0, none⟩ ∧ RAt w g rs

theorem rat_of_owns {w : World} {B g n cap : Nat} {rs : List (Int × Int)} (h : w.ownsRow B 32 2 (.slice (some ⟨g, 0, none⟩) n cap) n (rcells rs)) (hn : n = rs.length) : RAt w g rs := by
  intro j hj
  have := rcells_get rs j hj
  rw [h.cellAt (j * 2) (by omega), h.cellAt (j * 2 + 1) (by omega)]
  exact this

set_option maxHeartbeats 1000000 in
theorem concat_some (gw cw gx cx gy cy : Nat) (xs ys : List (Int × Int)) (w : World) (hw : RAt w gw (xs ++ ys)) (hx : RAt w gx xs) (hy : RAt w gy ys) (hl : xs.length + ys.length ≤ 4096) :
    Calls Try.prog 21 #[.slice (some ⟨gw, 0, none⟩) (xs.length + ys.length) cw, .slice (some ⟨gx, 0, none⟩) xs.length cx, .slice (some ⟨gy, 0, none⟩) ys.length cy] w fun e w' => e = .returned (.bool true) ∧ ∃ m, w' = w.drewN m := by
  go_enter Try.func21, Try.ntmps21
  go_wp2
  go_loopg [7] xs.length (fun gk iv wr => ∃ i m : Nat, Hid (i + gk = xs.length) ∧ iv = .int .i64 i ∧ wr = w.drewN m)
  case atStart => exact ⟨0, 0, Nat.zero_add _, rfl, rfl⟩
  case round =>
    obtain ⟨i, m, hi, rfl, rfl⟩ := hrel
    by_cases hlt : i < xs.length
    · obtain ⟨x0, x1⟩ := hx i hlt
      obtain ⟨z0, z1⟩ := hw i (by simp; omega)
      rw [List.getElem_append_left hlt] at z0 z1
      have hiI : (i : Int) < (xs.length : Int) := by omega
      have hiJ : (i : Int) < (xs.length : Int) + (ys.length : Int) := by omega
      go_wp2
      go_quiet (fail)
      go_wp2
      go_roundg (gk - 1)
      case measure => have := hi.out; omega
      case rel => exact ⟨i + 1, _, by have := hi.out; show _ = _; omega, by go_num, rfl⟩
    · go_wp2
      go_loopg [8] ys.length (fun gk iv wr => ∃ j m : Nat, Hid (j + gk = ys.length) ∧ iv = .int .i64 j ∧ wr = w.drewN m)
      case atStart => exact ⟨0, _, Nat.zero_add _, rfl, rfl⟩
      case round =>
        obtain ⟨j, m2, hj, rfl, rfl⟩ := hrel
        by_cases hjl : j < ys.length
        · obtain ⟨x0, x1⟩ := hy j hjl
          obtain ⟨z0, z1⟩ := hw (xs.length + j) (by simp; omega)
          rw [List.getElem_append_right (by omega)] at z0 z1
          simp only [Nat.add_sub_cancel_left] at z0 z1
          have hjI : (j : Int) < (ys.length : Int) := by omega
          have hjJ : (xs.length : Int) + (j : Int) < (xs.length : Int) + (ys.length : Int) := by omega
          go_wp2
          go_quiet (fail)
          go_wp2
          go_roundg (gk - 1)
          case measure => have := hj.out; omega
          case rel => exact ⟨j + 1, _, by have := hj.out; show _ = _; omega, by go_num, rfl⟩
        · go_wp2
          go_ret
          exact ⟨rfl, _, rfl⟩

set_option maxHeartbeats 1000000 in
theorem concat_none (gw cw gx cx cy : Nat) (ay : Option Addr) (xs : List (Int × Int)) (w : World) (hw : RAt w gw xs) (hx : RAt w gx xs) (hl : xs.length ≤ 4096) :
    Calls Try.prog 21 #[.slice (some ⟨gw, 0, none⟩) xs.length cw, .slice (some ⟨gx, 0, none⟩) xs.length cx, .slice ay 0 cy] w fun e w' => e = .returned (.bool true) ∧ ∃ m, w' = w.drewN m := by
  go_enter Try.func21, Try.ntmps21
  go_wp2
  go_loopg [7] xs.length (fun gk iv wr => ∃ i m : Nat, Hid (i + gk = xs.length) ∧ iv = .int .i64 i ∧ wr = w.drewN m)
  case atStart => exact ⟨0, 0, Nat.zero_add _, rfl, rfl⟩
  case round =>
    obtain ⟨i, m, hi, rfl, rfl⟩ := hrel
    by_cases hlt : i < xs.length
    · obtain ⟨x0, x1⟩ := hx i hlt
      obtain ⟨z0, z1⟩ := hw i hlt
      have hiI : (i : Int) < (xs.length : Int) := by omega
      go_wp2
      go_quiet (fail)
      go_wp2
      go_roundg (gk - 1)
      case measure => have := hi.out; omega
      case rel => exact ⟨i + 1, _, by have := hi.out; show _ = _; omega, by go_num, rfl⟩
    · go_wp2
      refine wp_loop_rounds 1 ?_
      rw [rounds_succ]
      go_wp2
      go_ret
      exact ⟨rfl, _, rfl⟩

theorem concat_any (gw cw gx cx nw nx ny cy : Nat) (ay : Option Addr) (ws xs ys : List (Int × Int)) (w : World) (hnw : nw = ws.length) (hnx : nx = xs.length) (hny : ny = ys.length) (hw : RAt w gw ws) (hx : RAt w gx xs) (hy : RR w ay ys) (e : ws = xs ++ ys) (hl : ws.length ≤ 4096) :
    Calls Try.prog 21 #[.slice (some ⟨gw, 0, none⟩) nw cw, .slice (some ⟨gx, 0, none⟩) nx cx, .slice ay ny cy] w fun e w' => e = .returned (.bool true) ∧ ∃ m, w' = w.drewN m := by
  subst e hnx hny
  simp at hnw hl
  subst hnw
  rcases hy with rfl | ⟨gy, rfl, hy⟩
  · rw [List.append_nil] at hw
    exact concat_none gw cw gx cx cy ay xs w hw hx (by simpa using hl)
  · exact concat_some gw cw gx cx gy cy xs ys w hw hx hy hl
end Go.Proofs.Qxb6617406a
