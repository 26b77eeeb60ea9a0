/- zzTotal once more, for longer lists. -/
import Derived.Test.Qxb6617406aReads3
namespace Go.Proofs.Qxb6617406a
open Go.ChangeShapes Go.WideShapes Go.ChangeAt Go.RowKit

set_option maxHeartbeats 1000000 in
theorem total_any2 (a : Option Addr) (n c : Nat) (xs : List Pc) (w : World) (hl : n = xs.length) (hr : Rd w a xs) (hok : ∀ i (h : i < xs.length), xs[i].ok) (hn : xs.length ≤ 5000000000000) (hc : tot3 xs < 18446744073709551616) :
    Calls Try.prog 15 #[.slice a n c] w fun r w' => r = .returned (.int .u64 (tot3 xs)) ∧ ∃ m, w' = w.drewN m := by
  subst hl
  obtain ⟨b, o, ha, hat, _⟩ := hr.open
  go_enter Try.func15, Try.ntmps15
  go_wp2
  go_loopg [3, 4] xs.length (fun gk tv iv wr => ∃ i m : Nat, Hid (i + gk = xs.length) ∧ tv = .int .u64 (tot3 (xs.take i)) ∧ iv = .int .i64 i ∧ wr = w.drewN m)
  case atStart => exact ⟨0, 0, Nat.zero_add _, rfl, rfl, rfl⟩
  case round =>
    obtain ⟨i, m, hi, rfl, rfl, rfl⟩ := hrel
    by_cases hlt : i < xs.length
    · obtain rfl := ha (by omega)
      obtain ⟨e0, e1, e2⟩ := hat i hlt
      have hiI : (i : Int) < (xs.length : Int) := by omega
      have hoki := hok i hlt
      unfold Pc.ok at hoki
      have HT : Hid (tot3 (xs.take (i + 1)) = tot3 (xs.take i) + len1 xs[i]) := tot3_take xs i hlt
      have hb1 := tot3_nonneg (xs.take i)
      have hb3 : tot3 (xs.take i) + len1 xs[i] < 18446744073709551616 := by
        have := tot3_take_le xs (i + 1)
        rw [HT.out] at this
        omega
      by_cases hse : xs[i].s < xs[i].e
      · have hse2 : decide (xs[i].s < xs[i].e) = true := by simpa using hse
        have HL : Hid (len1 xs[i] = xs[i].e - xs[i].s) := by show _ = _; unfold len1; rw [if_pos hse]
        have hb4 : tot3 (xs.take i) + (xs[i].e - xs[i].s) < 18446744073709551616 := by rw [← HL.out]; exact hb3
        go_wp2
        go_quiet (fail)
        go_wp2
        go_quiet (fail)
        go_wp2
        go_roundg (xs.length - (i + 1))
        case measure => have := hi.out; omega
        case rel => exact ⟨i + 1, _, by have := hi.out; show _ = _; omega, by rw [HT.out, HL.out], by go_num, rfl⟩
      · have hse2 : decide (xs[i].s < xs[i].e) = false := by simpa using hse
        have HL : Hid (len1 xs[i] = 0) := by show _ = _; unfold len1; rw [if_neg hse]
        go_wp2
        go_quiet (fail)
        go_wp2
        go_roundg (xs.length - (i + 1))
        case measure => have := hi.out; omega
        case rel => exact ⟨i + 1, _, by have := hi.out; show _ = _; omega, by rw [HT.out, HL.out, Int.add_zero], by go_num, rfl⟩
    · have hie : i = xs.length := by have := hi.out; omega
      subst hie
      rw [List.take_length]
      go_wp2
      go_ret
      exact ⟨rfl, _, rfl⟩

end Go.Proofs.Qxb6617406a
