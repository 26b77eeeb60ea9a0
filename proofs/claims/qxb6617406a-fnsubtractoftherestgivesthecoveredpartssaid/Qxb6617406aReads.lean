/- The small readers: zzBytes.., zzOverlap, zzCovered, zzAscending, zzTotal, zzSamePieces, zzInsideOwn. -/
import Derived.Test.Qxb6617406aBase
import Derived.Deep.LoopGhost
import Derived.WalkSmall
namespace Go.Proofs.Qxb6617406a
open Go.ChangeShapes Go.WideShapes Go.ChangeAt Go.RowKit

theorem Rd.open {w : World} {a : Option Addr} {ps : List Pc} (h : Rd w a ps) : ∃ b o, (0 < ps.length → a = some ⟨b, o, none⟩) ∧ At3 w b o ps ∧ (0 < ps.length → b < w.heap.size) := by
  rcases h with rfl | ⟨b, o, h, hb, hp⟩
  · exact ⟨0, 0, fun h => absurd h (by simp), At3.nil _ _ _, fun h => absurd h (by simp)⟩
  · exact ⟨b, o, fun _ => h, hp, fun _ => hb⟩

theorem Rd.drawn {w : World} {a : Option Addr} {ps : List Pc} (h : Rd w a ps) (w' : World) (e : w'.heap = w.heap) : Rd w' a ps := by
  rcases h with h | ⟨b, o, h1, h2, h3⟩
  · exact .inl h
  · exact .inr ⟨b, o, h1, by rw [e]; exact h2, h3.of_block (by rw [e])⟩

theorem draw_more (w : World) (a b c : Nat) : ∃ n, (w.drewN (a + b)).drewN c = w.drewN (a + n) := ⟨b + c, by rw [World.drewN_drewN, Nat.add_assoc]⟩

/-! ### zzBytes.. -/
theorem zzBytes8 (a b : Option Addr) (n c m d : Nat) (w : World) (hn : n ≤ 4096) (hm : m ≤ 4096) :
    Calls Try.prog 8 #[.slice a n c, .slice b m d] w fun e w' => e = .returned (.bool true) ∧ w' = w := by
  go_enter Try.func8, Try.ntmps8
  go_wp2
  go_ret
  exact ⟨rfl, rfl⟩
theorem zzBytes16 (a b : Option Addr) (n c m d : Nat) (w : World) (hn : n ≤ 4096) (hm : m ≤ 4096) :
    Calls Try.prog 16 #[.slice a n c, .slice b m d] w fun e w' => e = .returned (.bool true) ∧ w' = w := by
  go_enter Try.func16, Try.ntmps16
  go_wp2
  go_ret
  exact ⟨rfl, rfl⟩
theorem zzBytes13 (a b : Option Addr) (n c m d : Nat) (k : Int) (w : World) (hn : n ≤ 4096) (hm : m ≤ 4096) :
    Calls Try.prog 13 #[.slice a n c, .slice b m d, .int .i64 k] w fun e w' => e = .returned (.bool true) ∧ w' = w := by
  go_enter Try.func13, Try.ntmps13
  go_wp2
  go_ret
  exact ⟨rfl, rfl⟩

/-! ### zzOverlap -/
def ov (a0 a1 b0 b1 : Int) : Int :=
  if (if a0 < b0 then b0 else a0) < (if b1 < a1 then b1 else a1) then (if b1 < a1 then b1 else a1) - (if a0 < b0 then b0 else a0) else 0

theorem ret_u64 {a b : Int} (h : a = b) : Ending.returned (.int .u64 a) = .returned (.int .u64 b) := by rw [h]

theorem overlap_any (a0 a1 b0 b1 : Int) (w : World) (h1 : 0 ≤ a0) (h2 : a0 < 18446744073709551616) (h3 : 0 ≤ a1) (h4 : a1 < 18446744073709551616) (h5 : 0 ≤ b0) (h6 : b0 < 18446744073709551616) (h7 : 0 ≤ b1) (h8 : b1 < 18446744073709551616) :
    Calls Try.prog 22 #[.int .u64 a0, .int .u64 a1, .int .u64 b0, .int .u64 b1] w fun e w' => e = .returned (.int .u64 (ov a0 a1 b0 b1)) ∧ w' = w := by
  unfold ov
  by_cases c1 : a0 < b0 <;> by_cases c2 : b1 < a1 <;> simp only [c1, c2, if_true, if_false]
  · by_cases c3 : b0 < b1
    · rw [if_pos c3]
      go_enter Try.func22, Try.ntmps22
      go_wp2
      go_ret
      exact ⟨ret_u64 (by first | rfl | omega), rfl⟩
    · rw [if_neg c3]
      go_enter Try.func22, Try.ntmps22
      go_wp2
      go_ret
      exact ⟨rfl, rfl⟩
  · by_cases c3 : b0 < a1
    · rw [if_pos c3]
      go_enter Try.func22, Try.ntmps22
      go_wp2
      go_ret
      exact ⟨ret_u64 (by first | rfl | omega), rfl⟩
    · rw [if_neg c3]
      go_enter Try.func22, Try.ntmps22
      go_wp2
      go_ret
      exact ⟨rfl, rfl⟩
  · by_cases c3 : a0 < b1
    · rw [if_pos c3]
      go_enter Try.func22, Try.ntmps22
      go_wp2
      go_ret
      exact ⟨ret_u64 (by first | rfl | omega), rfl⟩
    · rw [if_neg c3]
      go_enter Try.func22, Try.ntmps22
      go_wp2
      go_ret
      exact ⟨rfl, rfl⟩
  · by_cases c3 : a0 < a1
    · rw [if_pos c3]
      go_enter Try.func22, Try.ntmps22
      go_wp2
      go_ret
      exact ⟨ret_u64 (by first | rfl | omega), rfl⟩
    · rw [if_neg c3]
      go_enter Try.func22, Try.ntmps22
      go_wp2
      go_ret
      exact ⟨rfl, rfl⟩
end Go.Proofs.Qxb6617406a
