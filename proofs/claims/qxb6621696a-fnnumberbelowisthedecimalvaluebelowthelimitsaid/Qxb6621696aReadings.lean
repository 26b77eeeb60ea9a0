import Derived.Test.Qxb6621696aItoa
namespace Go.Proofs.Qxb6621696a
open Go.ChangeShapes Go.WideShapes Go.ChangeAt Go.RowKit

theorem okD_no {s : List Nat} {lim k : Nat} (hk : k < s.length) (h : ¬ (48 ≤ s[k] ∧ s[k] ≤ 57)) : okD s lim = false := by
  unfold okD
  rw [decide_eq_false_iff_not]
  rintro ⟨_, h1, _⟩
  exact h (h1 _ (List.getElem_mem hk))
theorem okD_big {s : List Nat} {lim k : Nat} (h : lim ≤ V (s.take k)) : okD s lim = false := by
  unfold okD
  rw [decide_eq_false_iff_not]
  rintro ⟨_, _, h1⟩
  have := V_take_le s k
  omega
theorem valD_no {s : List Nat} {lim : Nat} (h : okD s lim = false) : valD s lim = 0 := by unfold valD; rw [h]; rfl
theorem valD_yes {s : List Nat} {lim : Nat} (h : okD s lim = true) : valD s lim = V s := by unfold valD; rw [h]; rfl

set_option maxHeartbeats 1000000 in
theorem numberBelow_any (s : ByteArray) (lim : Nat) (w : World) (hs : s.size ≤ 65536) (hL : lim ≤ 1844674407370955161) :
    Calls Try.prog 16 #[.string s, .int .u64 lim] w fun e w' => e = .returned (.tuple #[.int .u64 (valD (bs s) lim : Nat), .bool (okD (bs s) lim)]) ∧ w' = w := by
  have hl := bs_length s
  by_cases h0 : s.size = 0
  · have hnil : bs s = [] := List.eq_nil_of_length_eq_zero (by omega)
    have H : Hid (okD (bs s) lim = false) := by show _ = _; simp [okD, hnil]
    obtain rfl : s = ⟨#[]⟩ := bs_inj hnil
    go_enter Try.func16, Try.ntmps16
    go_wp2
    go_ret2
    exact ⟨by rw [valD_no H.out, H.out]; rfl, rfl⟩
  · have h0I : (s.toList == ([] : List UInt8)) = false := by
      rw [ByteArray.toList_eq]
      cases s with
      | mk d => simp [ByteArray.size] at h0 ⊢; exact h0
    go_enter Try.func16, Try.ntmps16
    go_wp2
    go_loopg [4, 12] s.size (fun gk nv kv wr => ∃ k : Nat, Hid (k + gk = s.size) ∧ nv = .int .u64 (V ((bs s).take k) : Nat) ∧ kv = .int .i64 k ∧ k ≤ s.size ∧ V ((bs s).take k) ≤ 1844674407370955160 ∧ Hid (k = 0 ∨ V ((bs s).take k) < lim) ∧ Hid (AD ((bs s).take k)) ∧ wr = w)
    case atStart => exact ⟨0, Nat.zero_add _, rfl, rfl, Nat.zero_le _, by simp [V], .inl rfl, fun x hx => absurd hx (by simp), rfl⟩
    case round =>
      obtain ⟨k, hk, rfl, rfl, hks, hv, hlt0, had, rfl⟩ := hrel
      by_cases hlt : k < s.size
      · have hkI : (k : Int) < (s.size : Int) := by omega
        have hb := bs_lt s k hlt
        have hk' : k < (bs s).length := by omega
        have Hg : Hid ((bs s)[k] = s[k].toNat) := bs_get s k hlt
        have HV : Hid (V ((bs s).take (k + 1)) = V ((bs s).take k) * 10 + (s[k].toNat - 48)) := by show _ = _; rw [V_take _ _ hk', Hg.out]
        have Ht : Hid ((bs s).take (k + 1) = (bs s).take k ++ [s[k].toNat]) := by show _ = _; rw [List.take_succ_eq_append_getElem hk', Hg.out]
        by_cases h1 : s[k].toNat < 48
        · have hd1 : decide ((s[k].toNat : Int) < 48) = true := by simp; omega
          have H : Hid (okD (bs s) lim = false) := okD_no hk' (by rw [Hg.out]; omega)
          go_wp2
          go_ret2
          exact ⟨by rw [valD_no H.out, H.out]; rfl, rfl⟩
        · have hd1 : decide ((s[k].toNat : Int) < 48) = false := by simp; omega
          by_cases h2 : 57 < s[k].toNat
          · have hd2 : decide ((57 : Int) < (s[k].toNat : Int)) = true := by simp; omega
            have H : Hid (okD (bs s) lim = false) := okD_no hk' (by rw [Hg.out]; omega)
            go_wp2
            go_ret2
            exact ⟨by rw [valD_no H.out, H.out]; rfl, rfl⟩
          · have hd2 : decide ((57 : Int) < (s[k].toNat : Int)) = false := by simp; omega
            generalize V ((bs s).take k) = v at *
            by_cases h3 : lim ≤ v * 10 + (s[k].toNat - 48)
            · have hd3 : (lim : Int) ≤ (v : Int) * 10 + ((s[k].toNat : Int) - 48) := by omega
              have H : Hid (okD (bs s) lim = false) := okD_big (k := k + 1) (by rw [HV.out]; exact h3)
              go_wp2
              go_ret2
              exact ⟨by rw [valD_no H.out, H.out]; rfl, rfl⟩
            · have hd3 : ¬ (lim : Int) ≤ (v : Int) * 10 + ((s[k].toNat : Int) - 48) := by omega
              go_wp2
              go_roundg (s.size - (k + 1))
              case measure => have := hk.out; omega
              case rel =>
                refine ⟨k + 1, by have := hk.out; show _ = _; omega, by rw [HV.out]; go_num, by go_num, hlt, by rw [HV.out]; omega, .inr (by rw [HV.out]; omega), ?_, rfl⟩
                show AD _
                rw [Ht.out]
                intro y hy
                rcases List.mem_append.mp hy with hy | hy
                · exact had.out y hy
                · simp at hy; subst hy; omega
      · have hke : k = s.size := by have := hk.out; omega
        subst hke
        have ht : (bs s).take s.size = bs s := by rw [← hl, List.take_length]
        rw [ht] at had hlt0 hv
        rw [ht]
        have H : Hid (okD (bs s) lim = true) := by
          show _ = _
          unfold okD
          rw [decide_eq_true_iff]
          exact ⟨fun h => by rw [h] at hl; simp at hl; omega, had.out, by rcases hlt0.out with h | h <;> omega⟩
        go_wp2
        go_ret2
        exact ⟨by rw [valD_yes H.out, H.out]; rfl, rfl⟩

theorem zzNumberBelow_any (s : ByteArray) (lim : Nat) (w : World) (hs : s.size ≤ 65536) (hL : lim ≤ 1844674407370955161) :
    Calls Try.prog 7 #[.string s, .int .u64 lim] w fun e w' => e = .returned (.tuple #[.int .u64 (valD (bs s) lim : Nat), .bool (okD (bs s) lim)]) ∧ w' = w := by
  go_enter Try.func7, Try.ntmps7
  go_wp2_with fail
  refine (numberBelow_any s lim _ hs hL).mono ?_
  rintro e w' ⟨rfl, rfl⟩
  go_wp2
  go_ret2
  exact ⟨rfl, rfl⟩

theorem wrap_step (v p x : Nat) (h1 : 48 ≤ x) (h : v + (x - 48) * p < 18446744073709551616) : IntKind.u64.wrap ((v : Int) + IntKind.u64.wrap (((x : Int) - 48) * (p : Int))) = ((v + (x - 48) * p : Nat) : Int) := by
  have e : ((x : Int) - 48) * (p : Int) = (((x - 48) * p : Nat) : Int) := by
    rw [Int.natCast_mul, Int.natCast_sub h1]; rfl
  rw [e, IntKind.wrap_u64, IntKind.wrap_u64]
  omega

theorem dec_step (c : ByteArray) (k : Nat) (hk : k + 1 ≤ c.size) (hc : Cn (bs c)) (h19 : c.size ≤ 19) :
    48 ≤ c[k].toNat ∧ c[k].toNat ≤ 57 ∧ V ((bs c).drop (k + 1)) + (c[k].toNat - 48) * 10 ^ (c.size - (k + 1)) < 18446744073709551616 ∧ 10 ^ (c.size - (k + 1)) * 10 < 18446744073709551616 ∧
    Hid (V ((bs c).drop k) = V ((bs c).drop (k + 1)) + (c[k].toNat - 48) * 10 ^ (c.size - (k + 1))) ∧ Hid (10 ^ (c.size - k) = 10 ^ (c.size - (k + 1)) * 10) := by
  have hl := bs_length c
  have hk' : k < (bs c).length := by omega
  have hg := bs_get c k hk
  have hd := hc.1 _ (List.getElem_mem hk')
  rw [hg] at hd
  have hv := V_drop (bs c) k hk'
  rw [hg, hl] at hv
  have hlt := V_lt (hc.1.drop k)
  rw [List.length_drop, hl] at hlt
  have hp : 10 ^ (c.size - k) ≤ 10 ^ 19 := Nat.pow_le_pow_right (by omega) (by omega)
  have he : 10 ^ (c.size - k) = 10 ^ (c.size - (k + 1)) * 10 := by rw [← Nat.pow_succ]; congr 1; omega
  refine ⟨hd.1, hd.2, ?_, ?_, ?_, he⟩
  · omega
  · omega
  · show _ = _
    omega

set_option maxRecDepth 20000 in
set_option maxHeartbeats 2000000 in
theorem decValue_any (s : ByteArray) (lim : Nat) (w : World) (hs : s.size ≤ 65536) (hL : lim ≤ 1844674407370955161) :
    Calls Try.prog 8 #[.string s, .int .u64 lim] w fun e w' => e = .returned (.tuple #[.int .u64 (valD (bs s) lim : Nat), .bool (okD (bs s) lim)]) ∧ Below w.heap.size w w' := by
  go_enter Try.func8, Try.ntmps8
  go_wp2_with fail
  refine (allDigits_any s _ hs).mono ?_
  rintro e w' ⟨rfl, rfl⟩
  cases hall : allD (bs s) with
  | false =>
    have H : Hid (okD (bs s) lim = false) := by
      show _ = _
      unfold okD
      rw [decide_eq_false_iff_not]
      rintro ⟨h1, h2, _⟩
      unfold allD at hall
      rw [decide_eq_false_iff_not] at hall
      exact hall ⟨h1, h2⟩
    go_wp2
    go_ret2
    exact ⟨by rw [valD_no H.out, H.out]; rfl, Below.refl _ _⟩
  | true =>
    have hA : bs s ≠ [] ∧ AD (bs s) := by unfold allD at hall; simpa using hall
    have HA : Hid (bs s ≠ [] ∧ AD (bs s)) := hA
    have h0 : 0 < s.size := by
      rw [← bs_length]
      exact List.length_pos_iff.mpr hA.1
    clear hA
    go_wp2_with fail
    refine (canon_any s _ hs h0 HA.out.2).mono ?_
    rintro e w' ⟨c, rfl, rfl, hcs, hcn, hcv⟩
    have HCn : Hid (Cn (bs c)) := hcn
    have HVc : Hid (V (bs c) = V (bs s)) := hcv
    have HCl : Hid ((bs c).length = c.size) := bs_length c
    clear hcn hcv
    go_wp2_with fail
    refine (itoa_any lim _ (by omega)).mono ?_
    rintro e w1 ⟨l, rfl, hbl, hls, hln, hlv⟩
    have HLn : Hid (Cn (bs l)) := hln
    have HVl : Hid (V (bs l) = lim) := hlv
    have HLl : Hid ((bs l).length = l.size) := bs_length l
    clear hln hlv
    have hl19 : l.size ≤ 19 := by
      rcases Nat.lt_or_ge l.size 20 with h | h
      · omega
      · exfalso
        have h1 := HLn.out.low (by rw [HLl.out]; omega)
        rw [HVl.out, HLl.out] at h1
        have h2 : 10 ^ 19 ≤ 10 ^ (l.size - 1) := Nat.pow_le_pow_right (by omega) (by omega)
        omega
    by_cases hgt : l.size < c.size
    · have hgI : (l.size : Int) < (c.size : Int) := by omega
      have H : Hid (okD (bs s) lim = false) := by
        show _ = _
        have h1 := cn_lt HLn.out HCn.out (by rw [HLl.out, HCl.out]; exact hgt)
        rw [HVl.out, HVc.out] at h1
        unfold okD
        rw [decide_eq_false_iff_not]
        rintro ⟨_, _, h2⟩
        omega
      go_wp2
      go_ret2
      exact ⟨by rw [valD_no H.out, H.out]; rfl, hbl⟩
    · have hgI : ¬ (l.size : Int) < (c.size : Int) := by omega
      have hc19 : c.size ≤ 19 := by omega
      by_cases heq : c.size = l.size
      · have heI : ((c.size : Int) == (l.size : Int)) = true := by simp; omega
        have HX : Hid (lexL (bs c) (bs l) = decide (V (bs s) < lim)) := by
          show _ = _
          rw [lex_val HCn.out.1 HLn.out.1 (by rw [HLl.out, HCl.out]; exact heq), HVc.out, HVl.out]
        go_wp2_with fail
        refine (less_any c l _ (by omega)).mono ?_
        rintro e w2 ⟨rfl, m, rfl⟩
        have hb2 : Below w'.heap.size w' (w1.drewN m) := hbl.trans ⟨rfl, rfl, rfl, Nat.le_refl _, fun _ _ => rfl⟩
        rw [HX.out]
        by_cases hv : V (bs s) < lim
        · have HY : Hid (okD (bs s) lim = true) := by show _ = _; unfold okD; rw [decide_eq_true_iff]; exact ⟨HA.out.1, HA.out.2, hv⟩
          rw [show decide (V (bs s) < lim) = true by simpa using hv]
          clear hv
          go_wp2
          go_loopg [8, 9, 10] c.size (fun gk vv pv iv wr => ∃ k : Nat, Hid (gk = k) ∧ vv = .int .u64 (V ((bs c).drop k) : Nat) ∧ pv = .int .u64 (10 ^ (c.size - k) : Nat) ∧ iv = .int .i64 ((k : Int) - 1) ∧ k ≤ c.size ∧ Below w'.heap.size w' wr)
          case atStart => exact ⟨c.size, rfl, by rw [← HCl.out, List.drop_length]; rfl, by rw [Nat.sub_self]; rfl, by first | rfl | rw [heq], Nat.le_refl _, hb2⟩
          case round =>
            obtain ⟨k, hk, rfl, rfl, rfl, hkc, hbel⟩ := hrel
            cases k with
            | zero =>
              clear hkc
              rw [List.drop_zero, HVc.out]
              go_wp2
              go_ret2
              exact ⟨by rw [valD_yes HY.out, HY.out]; rfl, hbel⟩
            | succ k =>
              have hkI : (k : Int) < (c.size : Int) := by omega
              have e1 : (((k + 1 : Nat) : Int) - 1) = (k : Int) := by omega
              rw [e1]
              obtain ⟨b1, b2, b3, b4, b5, b6⟩ := dec_step c k hkc HCn.out hc19
              generalize V ((bs c).drop (k + 1)) = v at *
              generalize 10 ^ (c.size - (k + 1)) = p at *
              go_wp2
              go_roundg k
              case measure => have := hk.out; omega
              case rel =>
                exact ⟨k, rfl, by rw [b5.out, ← wrap_step v p _ b1 b3], by rw [b6.out]; go_num, rfl, by omega, hbel⟩
        · have H : Hid (okD (bs s) lim = false) := by show _ = _; unfold okD; rw [decide_eq_false_iff_not]; exact fun h => hv h.2.2
          rw [show decide (V (bs s) < lim) = false by simpa using hv]
          clear hv
          go_wp2
          go_ret2
          exact ⟨by rw [valD_no H.out, H.out]; rfl, hb2⟩
      · have heI : ((c.size : Int) == (l.size : Int)) = false := by simp; omega
        have HY : Hid (okD (bs s) lim = true) := by
          show _ = _
          have h1 := cn_lt HCn.out HLn.out (by rw [HLl.out, HCl.out]; omega)
          rw [HVl.out, HVc.out] at h1
          unfold okD
          rw [decide_eq_true_iff]
          exact ⟨HA.out.1, HA.out.2, h1⟩
        go_wp2
        go_loopg [8, 9, 10] c.size (fun gk vv pv iv wr => ∃ k : Nat, Hid (gk = k) ∧ vv = .int .u64 (V ((bs c).drop k) : Nat) ∧ pv = .int .u64 (10 ^ (c.size - k) : Nat) ∧ iv = .int .i64 ((k : Int) - 1) ∧ k ≤ c.size ∧ Below w'.heap.size w' wr)
        case atStart => exact ⟨c.size, rfl, by rw [← HCl.out, List.drop_length]; rfl, by rw [Nat.sub_self]; rfl, by first | rfl | rw [heq], Nat.le_refl _, hbl⟩
        case round =>
          obtain ⟨k, hk, rfl, rfl, rfl, hkc, hbel⟩ := hrel
          cases k with
          | zero =>
            clear hkc
            rw [List.drop_zero, HVc.out]
            go_wp2
            go_ret2
            exact ⟨by rw [valD_yes HY.out, HY.out]; rfl, hbel⟩
          | succ k =>
            have hkI : (k : Int) < (c.size : Int) := by omega
            have e1 : (((k + 1 : Nat) : Int) - 1) = (k : Int) := by omega
            rw [e1]
            obtain ⟨b1, b2, b3, b4, b5, b6⟩ := dec_step c k hkc HCn.out hc19
            generalize V ((bs c).drop (k + 1)) = v at *
            generalize 10 ^ (c.size - (k + 1)) = p at *
            go_wp2
            go_roundg k
            case measure => have := hk.out; omega
            case rel =>
              exact ⟨k, rfl, by rw [b5.out, ← wrap_step v p _ b1 b3], by rw [b6.out]; go_num, rfl, by omega, hbel⟩
end Go.Proofs.Qxb6621696a
