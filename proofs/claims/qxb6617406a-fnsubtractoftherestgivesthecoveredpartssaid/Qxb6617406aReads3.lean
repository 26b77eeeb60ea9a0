/- zzTotal, zzSamePieces, zzInsideOwn. -/
import Derived.Test.Qxb6617406aReads2
namespace Go.Proofs.Qxb6617406a
open Go.ChangeShapes Go.WideShapes Go.ChangeAt Go.RowKit

def len1 (p : Pc) : Int := if p.s < p.e then p.e - p.s else 0
def tot3 : List Pc → Int
  | [] => 0
  | p :: ps => len1 p + tot3 ps

theorem len1_nonneg (p : Pc) : 0 ≤ len1 p := by unfold len1; split <;> omega
theorem tot3_nonneg : ∀ ps, 0 ≤ tot3 ps
  | [] => Int.le_refl 0
  | p :: ps => by have := tot3_nonneg ps; have := len1_nonneg p; simp only [tot3]; omega
theorem tot3_append : ∀ (xs ys : List Pc), tot3 (xs ++ ys) = tot3 xs + tot3 ys
  | [], ys => by simp [tot3]
  | x :: xs, ys => by simp only [List.cons_append, tot3]; rw [tot3_append xs ys]; omega
theorem tot3_take (ms : List Pc) (k : Nat) (h : k < ms.length) : tot3 (ms.take (k + 1)) = tot3 (ms.take k) + len1 ms[k] := by
  rw [List.take_succ_eq_append_getElem h, tot3_append]; simp [tot3]
theorem tot3_take_le (ms : List Pc) (k : Nat) : tot3 (ms.take k) ≤ tot3 ms := by
  have h1 := tot3_append (ms.take k) (ms.drop k)
  rw [List.take_append_drop] at h1
  have := tot3_nonneg (ms.drop k)
  omega

set_option maxHeartbeats 1000000 in
theorem total_any (a : Option Addr) (n c : Nat) (xs : List Pc) (w : World) (hl : n = xs.length) (hr : Rd w a xs) (hok : ∀ i (h : i < xs.length), xs[i].ok) (hn : xs.length ≤ 20000) (hc : tot3 xs < 18446744073709551616) :
    Calls Try.prog 15 #[.slice a n c] w fun r w' => r = .returned (.int .u64 (tot3 xs)) ∧ ∃ m, w' = w.drewN m := by
  subst hl
  obtain ⟨b, o, ha, hat, _⟩ := hr.open
  go_enter Try.func15, Try.ntmps15
  go_wp2
  go_loopg [3, 4] xs.length (fun gk tv iv wr => ∃ i m : Nat, Hid (i + gk = xs.length) ∧ tv = .int .u64 (tot3 (xs.take i)) ∧ iv = .int .i64 i ∧ wr = w.drewN m)
  case atStart => exact ⟨0, 0, Nat.zero_add _, rfl, rfl, rfl⟩
  case round =>
    obtain ⟨i, m, hi, rfl, rfl, rfl⟩ := hrel
    by_cases hlt : i < xs.length
    · obtain rfl := ha (by omega)
      obtain ⟨e0, e1, e2⟩ := hat i hlt
      have hiI : (i : Int) < (xs.length : Int) := by omega
      have hoki := hok i hlt
      unfold Pc.ok at hoki
      have HT : Hid (tot3 (xs.take (i + 1)) = tot3 (xs.take i) + len1 xs[i]) := tot3_take xs i hlt
      have hb1 := tot3_nonneg (xs.take i)
      have hb3 : tot3 (xs.take i) + len1 xs[i] < 18446744073709551616 := by
        have := tot3_take_le xs (i + 1)
        rw [HT.out] at this
        omega
      by_cases hse : xs[i].s < xs[i].e
      · have hse2 : decide (xs[i].s < xs[i].e) = true := by simpa using hse
        have HL : Hid (len1 xs[i] = xs[i].e - xs[i].s) := by show _ = _; unfold len1; rw [if_pos hse]
        have hb4 : tot3 (xs.take i) + (xs[i].e - xs[i].s) < 18446744073709551616 := by rw [← HL.out]; exact hb3
        go_wp2
        go_quiet (fail)
        go_wp2
        go_quiet (fail)
        go_wp2
        go_roundg (xs.length - (i + 1))
        case measure => have := hi.out; omega
        case rel => exact ⟨i + 1, _, by have := hi.out; show _ = _; omega, by rw [HT.out, HL.out], by go_num, rfl⟩
      · have hse2 : decide (xs[i].s < xs[i].e) = false := by simpa using hse
        have HL : Hid (len1 xs[i] = 0) := by show _ = _; unfold len1; rw [if_neg hse]
        go_wp2
        go_quiet (fail)
        go_wp2
        go_roundg (xs.length - (i + 1))
        case measure => have := hi.out; omega
        case rel => exact ⟨i + 1, _, by have := hi.out; show _ = _; omega, by rw [HT.out, HL.out, Int.add_zero], by go_num, rfl⟩
    · have hie : i = xs.length := by have := hi.out; omega
      subst hie
      rw [List.take_length]
      go_wp2
      go_ret
      exact ⟨rfl, _, rfl⟩

set_option maxHeartbeats 1000000 in
theorem same_any (a a' : Option Addr) (n c n' c' : Nat) (xs : List Pc) (w : World) (hl : n = xs.length) (hl' : n' = xs.length) (hr : Rd w a xs) (hr' : Rd w a' xs) (hn : xs.length ≤ 500000000) :
    Calls Try.prog 14 #[.slice a n c, .slice a' n' c'] w fun r w' => r = .returned (.bool true) ∧ ∃ m, w' = w.drewN m := by
  subst hl hl'
  obtain ⟨b, o, ha, hat, _⟩ := hr.open
  obtain ⟨b', o', ha', hat', _⟩ := hr'.open
  go_enter Try.func14, Try.ntmps14
  go_wp2
  go_loopg [5] xs.length (fun gk iv wr => ∃ i m : Nat, Hid (i + gk = xs.length) ∧ iv = .int .i64 i ∧ wr = w.drewN m)
  case atStart => exact ⟨0, 0, Nat.zero_add _, rfl, rfl⟩
  case round =>
    obtain ⟨i, m, hi, rfl, rfl⟩ := hrel
    by_cases hlt : i < xs.length
    · obtain rfl := ha (by omega)
      obtain rfl := ha' (by omega)
      obtain ⟨e0, e1, e2⟩ := hat i hlt
      obtain ⟨f0, f1, f2⟩ := hat' i hlt
      have hiI : (i : Int) < (xs.length : Int) := by omega
      go_wp2
      go_quiet (fail)
      go_wp2
      go_roundg (xs.length - (i + 1))
      case measure => have := hi.out; omega
      case rel => exact ⟨i + 1, _, by have := hi.out; show _ = _; omega, by go_num, rfl⟩
    · go_wp2
      go_ret
      exact ⟨rfl, _, rfl⟩

def Ins (q p : Pc) : Prop := q.o = p.o ∧ p.s ≤ q.s ∧ q.e ≤ p.e

set_option maxHeartbeats 1000000 in
theorem inside_any (q : Pc) (a : Option Addr) (n c : Nat) (xs : List Pc) (w : World) (hl : n = xs.length) (hr : Rd w a xs) (hn : xs.length ≤ 20000) (hq : ∃ i, ∃ h : i < xs.length, Ins q xs[i]) :
    Calls Try.prog 17 #[.agg #[.int .u64 q.s, .int .u64 q.e, .int .i64 q.o], .slice a n c] w fun r w' => r = .returned (.bool true) ∧ Below w.heap.size w w' := by
  subst hl
  obtain ⟨b, o, ha, hat, hbl⟩ := hr.open
  have HQ : Hid (∃ i, ∃ h : i < xs.length, Ins q xs[i]) := hq
  have hpos : 0 < xs.length := by obtain ⟨i, h, _⟩ := hq; omega
  clear hq
  obtain rfl := ha hpos
  have hbl' := hbl hpos
  go_enter Try.func17, Try.ntmps17
  go_wp2
  obtain ⟨W, hW⟩ : ∃ W, W = w.alloc (.cells #[.int .u64 q.s, .int .u64 q.e, .int .i64 q.o] 34) := ⟨_, rfl⟩
  rw [← hW]
  have q0 : W.cell? ⟨w.heap.size, 0, none⟩ = some (.int .u64 q.s) := by rw [hW]; simp
  have q1 : W.cell? ⟨w.heap.size, 1, none⟩ = some (.int .u64 q.e) := by rw [hW]; simp
  have q2 : W.cell? ⟨w.heap.size, 2, none⟩ = some (.int .i64 q.o) := by rw [hW]; simp
  have hbW : Below w.heap.size w W := by rw [hW]; exact (Below.refl _ _).alloc (Nat.le_refl _) _
  have hatW := hat.below hbW hbl'
  clear hW
  go_loopg [5] xs.length (fun gk iv wr => ∃ i m : Nat, Hid (i + gk = xs.length) ∧ iv = .int .i64 i ∧ wr = W.drewN m ∧ Hid (∀ j (h : j < xs.length), j < i → ¬ Ins q xs[j]))
  case atStart => exact ⟨0, 0, Nat.zero_add _, rfl, rfl, fun j _ h => absurd h (by omega)⟩
  case round =>
    obtain ⟨i, m, hi, rfl, rfl, hno⟩ := hrel
    by_cases hlt : i < xs.length
    · obtain ⟨e0, e1, e2⟩ := hatW i hlt
      have hiI : (i : Int) < (xs.length : Int) := by omega
      by_cases h1 : q.o = xs[i].o
      · have H1 : Hid (q.o = xs[i].o) := h1
        rw [← h1] at e2
        clear h1
        have h1' : (q.o == q.o) = true := by simp
        by_cases h2 : xs[i].s ≤ q.s
        · have h2' : decide (xs[i].s ≤ q.s) = true := by simpa using h2
          by_cases h3 : q.e ≤ xs[i].e
          · have h3' : decide (q.e ≤ xs[i].e) = true := by simpa using h3
            go_wp2
            go_quiet (fail)
            go_wp2
            go_ret
            exact ⟨rfl, below_drewN (below_drewN hbW _) _⟩
          · have h3' : decide (q.e ≤ xs[i].e) = false := by simpa using h3
            go_wp2
            go_quiet (fail)
            go_wp2
            go_roundg (xs.length - (i + 1))
            case measure => have := hi.out; omega
            case rel => exact ⟨i + 1, _, by have := hi.out; show _ = _; omega, by go_num, rfl, fun j hj h => by
              by_cases e : j = i
              · subst e; exact fun hh => by have := hh.2.2; omega
              · exact hno.out j hj (by omega)⟩
        · have h2' : decide (xs[i].s ≤ q.s) = false := by simpa using h2
          go_wp2
          go_quiet (fail)
          go_wp2
          go_roundg (xs.length - (i + 1))
          case measure => have := hi.out; omega
          case rel => exact ⟨i + 1, _, by have := hi.out; show _ = _; omega, by go_num, rfl, fun j hj h => by
            by_cases e : j = i
            · subst e; exact fun hh => by have := hh.2.1; omega
            · exact hno.out j hj (by omega)⟩
      · have h1' : (q.o == xs[i].o) = false := by simpa using h1
        go_wp2
        go_quiet (fail)
        go_wp2
        go_roundg (xs.length - (i + 1))
        case measure => have := hi.out; omega
        case rel => exact ⟨i + 1, _, by have := hi.out; show _ = _; omega, by go_num, rfl, fun j hj h => by
          by_cases e : j = i
          · subst e; exact fun hh => h1 hh.1
          · exact hno.out j hj (by omega)⟩
    · obtain ⟨j, hj, hh⟩ := HQ.out
      exact absurd hh (hno.out j hj (by omega))
end Go.Proofs.Qxb6617406a
