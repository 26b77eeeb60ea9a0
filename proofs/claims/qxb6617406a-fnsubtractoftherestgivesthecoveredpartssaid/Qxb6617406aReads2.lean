/- zzCovered, zzAscending, zzTotal, zzSamePieces. -/
import Derived.Test.Qxb6617406aReads
namespace Go.Proofs.Qxb6617406a
open Go.ChangeShapes Go.WideShapes Go.ChangeAt Go.RowKit

theorem ov_nonneg (a0 a1 b0 b1 : Int) : 0 ≤ ov a0 a1 b0 b1 := by
  unfold ov; split <;> omega

/-- how much of [s, e) the pieces cover -/
def cov (s e : Int) : List Pc → Int
  | [] => 0
  | m :: ms => ov s e m.s m.e + cov s e ms

theorem cov_nonneg (s e : Int) : ∀ ms, 0 ≤ cov s e ms
  | [] => Int.le_refl 0
  | m :: ms => by have := cov_nonneg s e ms; have := ov_nonneg s e m.s m.e; simp only [cov]; omega
theorem cov_append (s e : Int) : ∀ (xs ys : List Pc), cov s e (xs ++ ys) = cov s e xs + cov s e ys
  | [], ys => by simp [cov]
  | x :: xs, ys => by simp only [List.cons_append, cov]; rw [cov_append s e xs ys]; omega
theorem cov_take (s e : Int) (ms : List Pc) (k : Nat) (h : k < ms.length) : cov s e (ms.take (k + 1)) = cov s e (ms.take k) + ov s e ms[k].s ms[k].e := by
  rw [List.take_succ_eq_append_getElem h, cov_append]; simp [cov]
theorem cov_take_le (s e : Int) (ms : List Pc) (k : Nat) : cov s e (ms.take k) ≤ cov s e ms := by
  have h1 := cov_append s e (ms.take k) (ms.drop k)
  rw [List.take_append_drop] at h1
  have := cov_nonneg s e (ms.drop k)
  omega

set_option maxHeartbeats 1000000 in
theorem covered_any (s e : Int) (a : Option Addr) (n c : Nat) (ms : List Pc) (w : World) (hl : n = ms.length) (hr : Rd w a ms) (hok : ∀ i (h : i < ms.length), ms[i].ok) (hn : ms.length ≤ 20000)
    (h1 : 0 ≤ s) (h2 : s < 18446744073709551616) (h3 : 0 ≤ e) (h4 : e < 18446744073709551616) (hc : cov s e ms < 18446744073709551616) :
    Calls Try.prog 12 #[.int .u64 s, .int .u64 e, .slice a n c] w fun r w' => r = .returned (.int .u64 (cov s e ms)) ∧ ∃ m, w' = w.drewN m := by
  subst hl
  obtain ⟨b, o, ha, hat, _⟩ := hr.open
  go_enter Try.func12, Try.ntmps12
  go_wp2
  go_loopg [7, 8] ms.length (fun gk cv jv wr => ∃ j m : Nat, Hid (j + gk = ms.length) ∧ cv = .int .u64 (cov s e (ms.take j)) ∧ jv = .int .i64 j ∧ wr = w.drewN m)
  case atStart => exact ⟨0, 0, Nat.zero_add _, rfl, rfl, rfl⟩
  case round =>
    obtain ⟨j, m, hj, rfl, rfl, rfl⟩ := hrel
    by_cases hlt : j < ms.length
    · obtain rfl := ha (by omega)
      obtain ⟨e0, e1, e2⟩ := hat j hlt
      have hjI : (j : Int) < (ms.length : Int) := by omega
      have hokj := hok j hlt
      unfold Pc.ok at hokj
      have HT : Hid (cov s e (ms.take (j + 1)) = cov s e (ms.take j) + ov s e ms[j].s ms[j].e) := cov_take s e ms j hlt
      have hb1 := cov_nonneg s e (ms.take j)
      have hb2 := ov_nonneg s e ms[j].s ms[j].e
      have hb3 : cov s e (ms.take j) + ov s e ms[j].s ms[j].e < 18446744073709551616 := by
        have := cov_take_le s e ms (j + 1)
        rw [HT.out] at this
        omega
      go_wp2
      go_quiet ((go_at_call 22; refine (overlap_any _ _ _ _ _ h1 h2 h3 h4 (by omega) (by omega) (by omega) (by omega)).mono ?_; rintro e w'' ⟨rfl, rfl⟩; exact ⟨rfl, _, rfl⟩))
      go_wp2
      go_roundg (ms.length - (j + 1))
      case measure => have := hj.out; omega
      case rel => exact ⟨j + 1, _, by have := hj.out; show _ = _; omega, by rw [HT.out], by go_num, rfl⟩
    · have hje : j = ms.length := by have := hj.out; omega
      subst hje
      rw [List.take_length]
      go_wp2
      go_ret
      exact ⟨rfl, _, rfl⟩

theorem dN1 (w : World) (a b : Nat) : ∃ m, (w.drewN a).drewN b = w.drewN m := ⟨_, World.drewN_drewN _ _ _⟩
theorem dN2 (w : World) (a b c : Nat) : ∃ m, ((w.drewN a).drewN b).drewN c = w.drewN m := ⟨a + (b + c), by rw [World.drewN_drewN, World.drewN_drewN]⟩
theorem dN3 (w : World) (a b c d : Nat) : ∃ m, (((w.drewN a).drewN b).drewN c).drewN d = w.drewN m := ⟨a + (b + (c + d)), by rw [World.drewN_drewN, World.drewN_drewN, World.drewN_drewN]⟩

/-! ### zzAscending -/
def Asc (xs : List Pc) (allow : Bool) : Prop :=
  ∀ i (h : i < xs.length), xs[i].s ≤ xs[i].e ∧ (allow = false → xs[i].s ≠ xs[i].e) ∧ (∀ h0 : 0 < i, xs[i - 1].e ≤ xs[i].s)

set_option maxHeartbeats 1000000 in
theorem asc_any (a : Option Addr) (n c : Nat) (xs : List Pc) (allow B : Bool) (w : World) (hl : n = xs.length) (hr : Rd w a xs) (hn : xs.length ≤ 20000) (hB : B = true ↔ Asc xs allow) :
    Calls Try.prog 9 #[.slice a n c, .bool allow] w fun r w' => r = .returned (.bool B) ∧ ∃ m, w' = w.drewN m := by
  subst hl
  obtain ⟨b, o, ha, hat, _⟩ := hr.open
  have HB : Hid (B = true ↔ Asc xs allow) := hB
  clear hB
  have no : ∀ i (h : i < xs.length), ¬ (xs[i].s ≤ xs[i].e ∧ (allow = false → xs[i].s ≠ xs[i].e) ∧ (∀ h0 : 0 < i, xs[i - 1].e ≤ xs[i].s)) → B = false := by
    intro i h hno
    cases hb : B with
    | false => rfl
    | true => exact absurd (HB.out.1 hb i h) hno
  have No : Hid (∀ i (h : i < xs.length), ¬ (xs[i].s ≤ xs[i].e ∧ (allow = false → xs[i].s ≠ xs[i].e) ∧ (∀ h0 : 0 < i, xs[i - 1].e ≤ xs[i].s)) → B = false) := no
  clear no
  go_enter Try.func9, Try.ntmps9
  go_wp2
  go_loopg [5] xs.length (fun gk iv wr => ∃ i m : Nat, Hid (i + gk = xs.length) ∧ iv = .int .i64 i ∧ wr = w.drewN m ∧ Hid (∀ j (h : j < xs.length), j < i → xs[j].s ≤ xs[j].e ∧ (allow = false → xs[j].s ≠ xs[j].e) ∧ (∀ h0 : 0 < j, xs[j - 1].e ≤ xs[j].s)))
  case atStart => exact ⟨0, 0, Nat.zero_add _, rfl, rfl, fun j _ h => absurd h (by omega)⟩
  case round =>
    obtain ⟨i, m, hi, rfl, rfl, hall⟩ := hrel
    by_cases hlt : i < xs.length
    · obtain rfl := ha (by omega)
      obtain ⟨e0, e1, e2⟩ := hat i hlt
      have hiI : (i : Int) < (xs.length : Int) := by omega
      by_cases hse : xs[i].s ≤ xs[i].e
      · have hse2 : decide (xs[i].e < xs[i].s) = false := by simp; omega
        by_cases hem : allow = false ∧ xs[i].s = xs[i].e
        · obtain ⟨rfl, he⟩ := hem
          have HBf : Hid (B = false) := No.out i hlt (fun h => h.2.1 rfl he)
          rw [he] at e0
          have he2 : (xs[i].e == xs[i].e) = true := by simp
          clear he hse hse2
          go_wp2
          go_quiet (fail)
          go_wp2
          go_quiet (fail)
          go_wp2
          go_ret
          exact ⟨congrArg (fun b => Ending.returned (.bool b)) HBf.out.symm, by first | exact dN1 _ _ _ | exact dN2 _ _ _ _ | exact dN3 _ _ _ _ _⟩
        · cases hal : allow with
          | true =>
            subst hal
            have Hem : Hid (true = false → xs[i].s ≠ xs[i].e) := fun ha he => hem ⟨ha, he⟩
            clear hem
            by_cases hi0 : 0 < i
            · have hI0 : decide ((0 : Int) < (i : Int)) = true := by simp; omega
              obtain ⟨f0, f1, f2⟩ := hat (i - 1) (by omega)
              have hi1 : (1 : Int) ≤ (i : Int) := by omega
              by_cases hpe : xs[i - 1].e ≤ xs[i].s
              · have hpe2 : decide (xs[i].s < xs[i - 1].e) = false := by simp; omega
                go_wp2
                go_quiet (fail)
                go_wp2
                go_quiet (fail)
                go_wp2
                go_quiet (fail)
                go_wp2
                go_roundg (xs.length - (i + 1))
                case measure => have := hi.out; omega
                case rel => exact ⟨i + 1, _, by have := hi.out; show _ = _; omega, by go_num, rfl, fun j hj hlt' => by
                  by_cases e : j = i
                  · subst e; exact ⟨hse, Hem.out, fun _ => hpe⟩
                  · exact hall.out j hj (by omega)⟩
              · have HBf : Hid (B = false) := No.out i hlt (fun h => hpe (h.2.2 hi0))
                have hpe2 : decide (xs[i].s < xs[i - 1].e) = true := by simp; omega
                go_wp2
                go_quiet (fail)
                go_wp2
                go_quiet (fail)
                go_wp2
                go_quiet (fail)
                go_wp2
                go_ret
                exact ⟨congrArg (fun b => Ending.returned (.bool b)) HBf.out.symm, by first | exact dN1 _ _ _ | exact dN2 _ _ _ _ | exact dN3 _ _ _ _ _⟩
            · have hI0 : decide (0 < i) = false := by simpa using hi0
              go_wp2
              go_quiet (fail)
              go_wp2
              go_quiet (fail)
              go_wp2
              go_quiet (fail)
              go_wp2
              go_roundg (xs.length - (i + 1))
              case measure => have := hi.out; omega
              case rel => exact ⟨i + 1, _, by have := hi.out; show _ = _; omega, by go_num, rfl, fun j hj hlt' => by
                by_cases e : j = i
                · subst e; exact ⟨hse, Hem.out, fun h => absurd h hi0⟩
                · exact hall.out j hj (by omega)⟩
          | false =>
            subst hal
            have hem2 : (xs[i].s == xs[i].e) = false := by simpa using fun e => hem ⟨rfl, e⟩
            have Hem : Hid (false = false → xs[i].s ≠ xs[i].e) := fun ha he => hem ⟨ha, he⟩
            clear hem
            by_cases hi0 : 0 < i
            · have hI0 : decide ((0 : Int) < (i : Int)) = true := by simp; omega
              obtain ⟨f0, f1, f2⟩ := hat (i - 1) (by omega)
              have hi1 : (1 : Int) ≤ (i : Int) := by omega
              by_cases hpe : xs[i - 1].e ≤ xs[i].s
              · have hpe2 : decide (xs[i].s < xs[i - 1].e) = false := by simp; omega
                go_wp2
                go_quiet (fail)
                go_wp2
                go_quiet (fail)
                go_wp2
                go_quiet (fail)
                go_wp2
                go_roundg (xs.length - (i + 1))
                case measure => have := hi.out; omega
                case rel => exact ⟨i + 1, _, by have := hi.out; show _ = _; omega, by go_num, rfl, fun j hj hlt' => by
                  by_cases e : j = i
                  · subst e; exact ⟨hse, Hem.out, fun _ => hpe⟩
                  · exact hall.out j hj (by omega)⟩
              · have HBf : Hid (B = false) := No.out i hlt (fun h => hpe (h.2.2 hi0))
                have hpe2 : decide (xs[i].s < xs[i - 1].e) = true := by simp; omega
                go_wp2
                go_quiet (fail)
                go_wp2
                go_quiet (fail)
                go_wp2
                go_quiet (fail)
                go_wp2
                go_ret
                exact ⟨congrArg (fun b => Ending.returned (.bool b)) HBf.out.symm, by first | exact dN1 _ _ _ | exact dN2 _ _ _ _ | exact dN3 _ _ _ _ _⟩
            · have hI0 : decide (0 < i) = false := by simpa using hi0
              go_wp2
              go_quiet (fail)
              go_wp2
              go_quiet (fail)
              go_wp2
              go_quiet (fail)
              go_wp2
              go_roundg (xs.length - (i + 1))
              case measure => have := hi.out; omega
              case rel => exact ⟨i + 1, _, by have := hi.out; show _ = _; omega, by go_num, rfl, fun j hj hlt' => by
                by_cases e : j = i
                · subst e; exact ⟨hse, Hem.out, fun h => absurd h hi0⟩
                · exact hall.out j hj (by omega)⟩
      · have HBf : Hid (B = false) := No.out i hlt (fun h => hse h.1)
        have hse2 : decide (xs[i].e < xs[i].s) = true := by simp; omega
        go_wp2
        go_quiet (fail)
        go_wp2
        go_ret
        exact ⟨congrArg (fun b => Ending.returned (.bool b)) HBf.out.symm, by first | exact dN1 _ _ _ | exact dN2 _ _ _ _ | exact dN3 _ _ _ _ _⟩
    · have hB : B = true := HB.out.2 (fun j hj => hall.out j hj (by omega))
      have HBt : Hid (B = true) := hB
      clear hB
      go_wp2
      go_ret
      exact ⟨congrArg (fun b => Ending.returned (.bool b)) HBt.out.symm, _, rfl⟩
end Go.Proofs.Qxb6617406a
