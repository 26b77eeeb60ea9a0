/- zzToPieces (function 11) -/
import Derived.Test.Qxb6617406aBase
namespace Go.Proofs.Qxb6617406a
open Go.ChangeShapes Go.WideShapes Go.ChangeAt Go.RowKit

set_option maxHeartbeats 400000 in
theorem toPieces_some (b o c : Nat) (ps : List Pc) (w : World) (hc : At3 w b o ps) (hn : ps.length ≤ 4096) (hb : b < w.heap.size) :
    Calls Try.prog 11 #[.slice (some ⟨b, o, none⟩) ps.length c] w fun e w' => e = .returned (.slice (some ⟨w.heap.size, 0, none⟩) ps.length ps.length) ∧ Below w.heap.size w w' ∧ w.heap.size < w'.heap.size ∧ At3 w' w.heap.size 0 ps := by
  obtain ⟨i0, hi, hz0, hz1, hz2⟩ := info_parts Try.info34
  have heq := eqlNil Try.underlying22 (some ⟨b, o, none⟩) ps.length c
  go_enter Try.func11, Try.ntmps11
  go_wp2_with (at_make; refine wpList_make_full _ rfl _ _ 25 rfl w.heap.size 34 i0 _ 3 Try.underlying25 hi hz0 hz1 .i64 .i64 _ _ ps.length rfl rfl rfl rfl (by rw [hz2]; omega) (by unfold maxLen; omega) (Nat.le_refl _) ?_; intro w1 hown1 hgrow1)
  go_loopw [4] (fun i wr => ∃ k : Nat, k ≤ ps.length ∧ i = .int .i64 k ∧ Below w.heap.size w wr ∧ RowOf wr w.heap.size 34 (ps.length * 3) ∧ At3 wr w.heap.size 0 (ps.take k)) (fun i _ => ps.length - (intOf i).toNat)
  case atStart => exact ⟨0, Nat.zero_le _, rfl, Below.to_new hgrow1, RowOf.of_owns hown1, At3.nil _ _ _⟩
  case round =>
    obtain ⟨k, hk, rfl, hbel, hrow, hat⟩ := hrel
    by_cases hlt : k < ps.length
    · obtain ⟨c0, c1, c2⟩ := hc k hlt
      rw [← hbel.cell (p := ⟨b, o + k * 3, none⟩) hb] at c0
      rw [← hbel.cell (p := ⟨b, o + k * 3 + 1, none⟩) hb] at c1
      rw [← hbel.cell (p := ⟨b, o + k * 3 + 2, none⟩) hb] at c2
      obtain ⟨u0, d0⟩ := hrow.cell (k * 3) (by omega)
      obtain ⟨u1, d1⟩ := hrow.cell (k * 3 + 1) (by omega)
      obtain ⟨u2, d2⟩ := hrow.cell (k * 3 + 2) (by omega)
      have f0 := hrow.frozen (k * 3)
      have f1 := hrow.frozen (k * 3 + 1)
      have f2 := hrow.frozen (k * 3 + 2)
      have hkI : (k : Int) < (ps.length : Int) := by omega
      have hne : b ≠ w.heap.size := by omega
      have hne' : w.heap.size ≠ b := by omega
      go_wp2
      go_region_held3 (fun w' => w'.cell? ⟨b, o + k * 3, none⟩ = some (.int .u64 ps[k].s) ∧ w'.cell? ⟨b, o + k * 3 + 1, none⟩ = some (.int .u64 ps[k].e) ∧ w'.cell? ⟨b, o + k * 3 + 2, none⟩ = some (.int .i64 ps[k].o)) (go_keep) (fail)
      go_wp2
      go_roundw
      case rel => exact ⟨k + 1, by omega, by go_num, (((hbel.setCell (Nat.le_refl _) _).setCell (Nat.le_refl _) _).setCell (Nat.le_refl _) _).drew, ((hrow.setCell _ _).setCell _ _).setCell _ _, hat.snoc hrow hlt (by omega)⟩
      case measure => simp [intOf]; omega
    · go_wp2
      go_ret
      refine ⟨rfl, hbel, hrow.lt, ?_⟩
      rw [List.take_of_length_le (by omega)] at hat
      exact hat

theorem toPieces_nil (c : Nat) (w : World) :
    Calls Try.prog 11 #[.slice none 0 c] w fun e w' => e = .returned (.slice none 0 0) ∧ w' = w := by
  have heq := eqlNil Try.underlying22 none 0 c
  go_enter Try.func11, Try.ntmps11
  go_wp2
  go_ret
  exact ⟨rfl, rfl⟩

theorem toPieces_empty (x : Addr) (c : Nat) (w : World) :
    Calls Try.prog 11 #[.slice (some x) 0 c] w fun e w' => e = .returned (.slice (some ⟨w.heap.size, 0, none⟩) 0 0) ∧ Below w.heap.size w w' := by
  obtain ⟨i0, hi, hz0, hz1, hz2⟩ := info_parts Try.info34
  have heq := eqlNil Try.underlying22 (some x) 0 c
  go_enter Try.func11, Try.ntmps11
  go_wp2_with (at_make; refine wpList_make_full _ rfl _ _ 25 rfl w.heap.size 34 i0 _ 3 Try.underlying25 hi hz0 hz1 .i64 .i64 _ _ 0 rfl rfl rfl rfl (by omega) (by unfold maxLen; omega) (Nat.le_refl _) ?_; intro w1 hown1 hgrow1)
  refine wp_loop_rounds 1 ?_
  rw [rounds_succ]
  go_wp2
  go_ret
  exact ⟨rfl, Below.to_new hgrow1⟩

theorem toPieces_any (a : Option Addr) (c n : Nat) (ps : List Pc) (w : World) (hl : n = ps.length) (hr : Rd w a ps) (hn : ps.length ≤ 4096) :
    Calls Try.prog 11 #[.slice a n c] w fun e w' => ∃ a', e = .returned (.slice a' n n) ∧ Below w.heap.size w w' ∧ Rd w' a' ps := by
  subst hl
  by_cases h0 : ps = []
  · subst h0
    cases a with
    | none => exact (toPieces_nil c w).mono fun e w' ⟨h1, h2⟩ => ⟨none, h1, by subst h2; exact Below.refl _ _, .inl rfl⟩
    | some x => exact (toPieces_empty x c w).mono fun e w' ⟨h1, h2⟩ => ⟨_, h1, h2, .inl rfl⟩
  · rcases hr with h | ⟨b, o, rfl, h2, h3⟩
    · exact absurd h h0
    · exact (toPieces_some b o c ps w h3 hn h2).mono fun e w' ⟨h1, h2, h3, h4⟩ => ⟨_, h1, h2, .inr ⟨_, _, rfl, h3, h4⟩⟩
end Go.Proofs.Qxb6617406a
