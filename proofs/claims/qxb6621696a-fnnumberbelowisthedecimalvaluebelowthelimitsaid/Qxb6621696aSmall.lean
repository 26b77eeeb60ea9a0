import Derived.Test.Qxb6621696aLaw
import Derived.WalkKit
import Derived.ProofKit
import Derived.BigQuiet
import Derived.Deep.QuietTactic
import Derived.Deep.LoopGhost
import Derived.WalkSmall
import Derived.Laws.BitsAllLaws
import Derived.Laws.Pointers
import Derived.Laws.IdiomStrings
namespace Go.Proofs.Qxb6621696a
open Go.ChangeShapes Go.WideShapes Go.ChangeAt Go.RowKit

theorem dig_ok : ∀ x, x < 256 → (decide (x ^^^ 48 < 10) = decide (48 ≤ x ∧ x ≤ 57)) := by decide +kernel

theorem digit_any (x : Nat) (w : World) (hx : x < 256) :
    Calls Try.prog 20 #[.int .u8 x] w fun e w' => e = .returned (.bool (decide (48 ≤ x ∧ x ≤ 57))) ∧ w' = w := by
  have HX : Hid (bits .xor .u8 (x : Int) 48 = ((x ^^^ 48 : Nat) : Int)) := u8_xor_nat x 48 hx (by omega)
  go_enter Try.func20, Try.ntmps20
  go_wp2
  go_ret
  refine ⟨?_, rfl⟩
  rw [HX.out, ← dig_ok x hx]
  simp
  generalize x ^^^ 48 = y
  omega

def allD (s : List Nat) : Bool := decide (s ≠ [] ∧ AD s)

set_option maxHeartbeats 1000000 in
theorem allDigits_any (s : ByteArray) (w : World) (hs : s.size ≤ 65536) :
    Calls Try.prog 17 #[.string s] w fun e w' => e = .returned (.bool (allD (bs s))) ∧ w' = w := by
  have hl := bs_length s
  by_cases h0 : s.size = 0
  · have H : Hid (allD (bs s) = false) := by
      show _ = _
      have : bs s = [] := List.eq_nil_of_length_eq_zero (by omega)
      simp [allD, this]
    go_enter Try.func17, Try.ntmps17
    go_wp2
    go_ret
    exact ⟨by rw [H.out]; rfl, rfl⟩
  · have h0I : ((s.size : Int) == 0) = false := by simpa using h0
    go_enter Try.func17, Try.ntmps17
    go_wp2
    go_loopg [3] s.size (fun gk kv wr => ∃ k : Nat, Hid (k + gk = s.size) ∧ kv = .int .i64 k ∧ AD ((bs s).take k) ∧ wr = w)
    case atStart => exact ⟨0, Nat.zero_add _, rfl, fun x hx => absurd hx (by simp), rfl⟩
    case round =>
      obtain ⟨k, hk, rfl, had, rfl⟩ := hrel
      by_cases hlt : k < s.size
      · have hkI : (k : Int) < (s.size : Int) := by omega
        have hb := bs_lt s k hlt
        have Hg : Hid ((bs s)[k]'(by omega) = s[k].toNat) := bs_get s k hlt
        have Hm : Hid ((bs s)[k]'(by omega) ∈ bs s) := List.getElem_mem _
        have Ht : Hid ((bs s).take (k + 1) = (bs s).take k ++ [(bs s)[k]'(by omega)]) := List.take_succ_eq_append_getElem (by omega)
        go_wp2_with fail
        refine (digit_any s[k].toNat _ hb).mono ?_
        rintro e w' ⟨rfl, rfl⟩
        by_cases hd : 48 ≤ s[k].toNat ∧ s[k].toNat ≤ 57
        · have hdd : decide (48 ≤ s[k].toNat ∧ s[k].toNat ≤ 57) = true := by simpa using hd
          rw [hdd]
          go_wp2
          go_roundg (s.size - (k + 1))
          case measure => have := hk.out; omega
          case rel =>
            refine ⟨k + 1, by have := hk.out; show _ = _; omega, by go_num, ?_, rfl⟩
            rw [Ht.out, Hg.out]
            intro y hy
            rcases List.mem_append.mp hy with hy | hy
            · exact had y hy
            · simp at hy; subst hy; exact hd
        · have hdd : decide (48 ≤ s[k].toNat ∧ s[k].toNat ≤ 57) = false := by simpa using hd
          have H : Hid (allD (bs s) = false) := by
            show _ = _
            unfold allD
            rw [decide_eq_false_iff_not]
            rintro ⟨_, h⟩
            have := h _ Hm.out
            rw [Hg.out] at this
            exact hd this
          rw [hdd]
          go_wp2
          go_ret
          exact ⟨by rw [H.out]; rfl, rfl⟩
      · have hke : k = s.size := by have := hk.out; omega
        subst hke
        have H : Hid (allD (bs s) = true) := by
          show _ = _
          unfold allD
          rw [decide_eq_true_iff]
          rw [← hl, List.take_length] at had
          exact ⟨fun h => by rw [h] at hl; simp at hl; omega, had⟩
        go_wp2
        go_ret
        exact ⟨by rw [H.out]; rfl, rfl⟩

set_option maxHeartbeats 1000000 in
theorem canon_any (s : ByteArray) (w : World) (hs : s.size ≤ 65536) (h0 : 0 < s.size) (ha : AD (bs s)) :
    Calls Try.prog 10 #[.string s] w fun e w' => ∃ c, e = .returned (.string c) ∧ w' = w ∧ c.size ≤ 65536 ∧ Cn (bs c) ∧ V (bs c) = V (bs s) := by
  have hl := bs_length s
  have HA : Hid (AD (bs s)) := ha
  clear ha
  go_enter Try.func10, Try.ntmps10
  go_wp2
  go_loopg [3] s.size (fun gk kv wr => ∃ k : Nat, Hid (k + gk = s.size) ∧ kv = .int .i64 k ∧ k < s.size ∧ Hid (V ((bs s).drop k) = V (bs s)) ∧ wr = w)
  case atStart => exact ⟨0, Nat.zero_add _, rfl, h0, rfl, rfl⟩
  case round =>
    obtain ⟨k, hk, rfl, hlt, HV, rfl⟩ := hrel
    have hkI : (k : Int) < (s.size : Int) := by omega
    have Hg : Hid ((bs s)[k]'(by omega) = s[k].toNat) := bs_get s k hlt
    have Hfin : Hid ((k + 1 = s.size ∨ s[k].toNat ≠ 48) → (s.extract k s.size).size ≤ 65536 ∧ Cn (bs (s.extract k s.size)) ∧ V (bs (s.extract k s.size)) = V (bs s)) := by
      intro h
      refine ⟨by simp; omega, ?_⟩
      rw [bs_extract]
      exact ⟨cn_drop _ _ HA.out (by omega) (by rw [Hg.out, hl]; exact h), HV.out⟩
    by_cases h1 : k + 1 < s.size
    · have h1I : (k : Int) + 1 < (s.size : Int) := by omega
      have hd1 : decide ((k : Int) + 1 < (s.size : Int)) = true := by simpa using h1I
      by_cases h2 : s[k].toNat = 48
      · have Hs : Hid (V ((bs s).drop (k + 1)) = V ((bs s).drop k)) := canon_step _ _ (by omega) (by rw [Hg.out]; exact h2)
        go_wp2
        go_roundg (s.size - (k + 1))
        case measure => have := hk.out; omega
        case rel => exact ⟨k + 1, by have := hk.out; show _ = _; omega, by go_num, h1, Hs.out.trans HV.out, rfl⟩
      · have h2d : (s[k].toNat == 48) = false := by simpa using h2
        go_wp2
        go_ret
        exact ⟨_, rfl, rfl, Hfin.out (.inr h2)⟩
    · have hd1 : decide ((k : Int) + 1 < (s.size : Int)) = false := by simp; omega
      go_wp2
      go_ret
      exact ⟨_, rfl, rfl, Hfin.out (.inl (by omega))⟩

theorem dN2 (w : World) (a b c : Nat) : ∃ m, ((w.drewN a).drewN b).drewN c = w.drewN m := ⟨a + (b + c), by rw [World.drewN_drewN, World.drewN_drewN]⟩

theorem lex_step {a b : List Nat} {k : Nat} (ha : k < a.length) (hb : k < b.length) : lexL (a.drop k) (b.drop k) = if a[k] = b[k] then lexL (a.drop (k + 1)) (b.drop (k + 1)) else decide (a[k] < b[k]) := by
  rw [List.drop_eq_getElem_cons ha, List.drop_eq_getElem_cons hb, lexL]
theorem lex_end {a b : List Nat} {k : Nat} (h : a.length ≤ k ∨ b.length ≤ k) (h1 : k ≤ a.length) (h2 : k ≤ b.length) : lexL (a.drop k) (b.drop k) = decide (a.length < b.length) := by
  rcases Nat.lt_or_ge k a.length with ha | ha
  · rcases h with h | h
    · omega
    · rw [List.drop_eq_getElem_cons ha, List.drop_of_length_le h, lexL]
      simp; omega
  · rw [List.drop_of_length_le ha]
    rcases Nat.lt_or_ge k b.length with hb | hb
    · rw [List.drop_eq_getElem_cons hb, lexL]; simp; omega
    · rw [List.drop_of_length_le hb, lexL]; simp; omega

set_option maxHeartbeats 1000000 in
theorem less_any (a b : ByteArray) (w : World) (ha : a.size ≤ 65536) :
    Calls Try.prog 18 #[.string a, .string b] w fun e w' => e = .returned (.bool (lexL (bs a) (bs b))) ∧ ∃ m, w' = w.drewN m := by
  have hla := bs_length a
  have hlb := bs_length b
  go_enter Try.func18, Try.ntmps18
  go_wp2
  go_loopg [5] (a.size + b.size) (fun gk kv wr => ∃ k m : Nat, Hid (k + gk = a.size + b.size) ∧ kv = .int .i64 k ∧ (k ≤ a.size ∧ k ≤ b.size) ∧ Hid (lexL ((bs a).drop k) ((bs b).drop k) = lexL (bs a) (bs b)) ∧ wr = w.drewN m)
  case atStart => exact ⟨0, 0, Nat.zero_add _, rfl, ⟨Nat.zero_le _, Nat.zero_le _⟩, rfl, rfl⟩
  case round =>
    obtain ⟨k, m, hk, rfl, ⟨hka, hkb⟩, HV, rfl⟩ := hrel
    by_cases h1 : k < a.size
    · have h1I : (k : Int) < (a.size : Int) := by omega
      have hd1 : decide ((k : Int) < (a.size : Int)) = true := by simpa using h1I
      by_cases h2 : k < b.size
      · have h2I : (k : Int) < (b.size : Int) := by omega
        have Ha : Hid ((bs a)[k]'(by omega) = a[k].toNat) := bs_get a k h1
        have Hb : Hid ((bs b)[k]'(by omega) = b[k].toNat) := bs_get b k h2
        have HS : Hid (lexL ((bs a).drop k) ((bs b).drop k) = if a[k].toNat = b[k].toNat then lexL ((bs a).drop (k + 1)) ((bs b).drop (k + 1)) else decide (a[k].toNat < b[k].toNat)) := by
          show _ = _
          rw [lex_step (by omega) (by omega), Ha.out, Hb.out]
        by_cases he : a[k].toNat = b[k].toNat
        · have hed : (((a[k].toNat : Int)) != (b[k].toNat : Int)) = false := by simp; omega
          go_wp2
          go_quiet (fail)
          go_wp2
          go_roundg (a.size + b.size - (k + 1))
          case measure => have := hk.out; omega
          case rel => exact ⟨k + 1, _, by have := hk.out; show _ = _; omega, by go_num, ⟨h1, h2⟩, by show _ = _; rw [← HV.out, HS.out, if_pos he], rfl⟩
        · have hed : (((a[k].toNat : Int)) != (b[k].toNat : Int)) = true := by simp; omega
          go_wp2
          go_quiet (fail)
          go_wp2
          go_quiet (fail)
          go_wp2
          go_ret
          exact ⟨by rw [← HV.out, HS.out, if_neg he]; simp, dN2 _ _ _ _⟩
      · have h2I : ¬ (k : Int) < (b.size : Int) := by omega
        go_wp2
        go_ret
        exact ⟨by rw [← HV.out, lex_end (.inr (by omega)) (by omega) (by omega), hla, hlb]; simp, _, rfl⟩
    · have hd1 : decide ((k : Int) < (a.size : Int)) = false := by simp; omega
      go_wp2
      go_ret
      exact ⟨by rw [← HV.out, lex_end (.inl (by omega)) (by omega) (by omega), hla, hlb]; simp, _, rfl⟩
end Go.Proofs.Qxb6621696a
