import Derived.Test.Qxb6617406aToPieces
import Derived.Test.Qxb6617406aSubtract2
import Derived.Test.Qxb6617406aReads4
import Derived.Test.Qxb6617406aSubLaw2
import Derived.Deep.CutBlock
import Derived.Deep.DeepCutAuto
import Derived.Deep.RegionHeld3
namespace Go.Proofs.Qxb6617406a
open Go.ChangeShapes Go.WideShapes Go.ChangeAt Go.RowKit

theorem At3.from {w : World} {b o n : Nat} {ps : List Pc} (h : At3 w b o ps) : At3 w b (o + n * 3) (ps.drop n) := by
  intro i hi
  have := h (n + i) (by simp at hi; omega)
  simp only [List.getElem_drop]
  rw [show o + (n + i) * 3 = o + n * 3 + i * 3 by omega] at this
  exact this
theorem Below.drewFrom {B : Nat} {w w' : World} (h : Below B w.drew w') : Below B w w' := ⟨h.os, h.tape, h.output, h.size, h.block⟩
theorem At3.upto {w : World} {b o n : Nat} {ps : List Pc} (h : At3 w b o ps) : At3 w b o (ps.take n) := by
  intro i hi
  have := h i (by simp at hi; omega)
  simp only [List.getElem_take]
  exact this

set_option maxRecDepth 20000 in
set_option maxHeartbeats 2000000 in
theorem fn4_yes (a1 a2 : Option Addr) (c1 c2 : Nat) (ps ms : List Pc) (cut : Nat) (w : World) (hr1 : Rd w a1 ps) (hr2 : Rd w a2 ms) (hok1 : ∀ i (h : i < ps.length), ps[i].ok) (hok2 : ∀ i (h : i < ms.length), ms[i].ok) (hn : ps.length ≤ 4096) (hm : ms.length ≤ 4096) (hcl : cut ≤ ms.length) (h1 : Asc ps true) (h2 : Asc ms false) :
    Calls Try.prog 4 #[.slice a1 ps.length c1, .slice a2 ms.length c2, .int .i64 cut] w fun e w' => e = .returned (.bool true) ∧ Below w.heap.size w w' := by
  have hd1 : decide ((4096 : Int) < (ps.length : Int)) = false := by simp; omega
  have hd2 : decide ((4096 : Int) < (ms.length : Int)) = false := by simp; omega
  have hd3 : decide ((cut : Int) < 0) = false := by simp
  have hd4 : decide (ms.length < cut) = false := by simp; omega
  have hcI : (cut : Int) ≤ (ms.length : Int) := by omega
  have hPA := asc_pa ps hok1 h1
  have hMA := asc_ma ms hok2 h2
  go_enter Try.func4, Try.ntmps4
  go_wp2_with fail
  refine (zzBytes13 _ _ _ _ _ _ _ _ hn hm).mono ?_
  rintro e w' ⟨rfl, rfl⟩
  go_wp2_with fail
  refine (asc_any a1 ps.length c1 ps true true _ rfl hr1 (by omega) ⟨fun _ => h1, fun _ => rfl⟩).mono ?_
  rintro e w1 ⟨rfl, m1, rfl⟩
  go_wp2_with fail
  refine (asc_any a2 ms.length c2 ms false true _ rfl (by exact hr2.drawn _ rfl) (by omega) ⟨fun _ => h2, fun _ => rfl⟩).mono ?_
  rintro e w2 ⟨rfl, m2, rfl⟩
  go_wp2_with fail
  refine (toPieces_any a1 c1 ps.length ps _ rfl (by exact hr1.drawn _ rfl) hn).mono ?_
  rintro e w3 ⟨x1, rfl, hb3, hx1⟩
  have hr2' : Rd w3 a2 ms := (hr2.drawn (w'.drewN (m1 + m2)) rfl).below hb3
  go_wp2_with fail
  refine (toPieces_any a2 c2 ms.length ms _ rfl hr2' hm).mono ?_
  rintro e w4 ⟨x2, rfl, hb4, hx2⟩
  have hx1' := hx1.below hb4
  go_wp2_with fail
  refine (sub_any x1 x2 ps.length ps.length ms.length ms.length ps ms _ rfl rfl hx1' hx2 (by omega) (by omega)).mono ?_
  rintro e w5 ⟨ga, gc, rfl, hb5, hout⟩
  have hr25 : Rd w5 a2 ms := (hr2'.below hb4).below hb5
  have hr15 : Rd w5 a1 ps := (((hr1.drawn (w'.drewN (m1 + m2)) rfl).below hb3).below hb4).below hb5
  have hx15 : Rd w5 x1 ps := hx1'.below hb5
  have hx25 : Rd w5 x2 ms := hx2.below hb5
  have hbel : Below w'.heap.size w' w5 := by
    have h0 : Below w'.heap.size w' (w'.drewN (m1 + m2)) := below_drewN (Below.refl _ _) _
    exact h0.trans (hb3.trans ((hb4.mono hb3.size).trans (hb5.mono (Nat.le_trans hb3.size hb4.size))))
  clear hr1 hr2 hr2' hx1 hx1' hx2 hb3 hb4 hb5
  go_upto_region 14 with fail
  go_cut [1, 8, 10] (fun s1 s8 sv wr => s1 = .slice a2 ms.length c2 ∧ s8 = .slice x2 ms.length ms.length ∧ ∃ gb gd, sv = .slice gb (subt ps ms).length gd ∧ Below w5.heap.size w5 wr ∧ Rd wr gb (subt ps ms))
  case first =>
    have hmt : (ms.take cut).length = cut := by simp; omega
    have hmd : (ms.drop cut).length = ms.length - cut := by simp
    have Hmt : Hid ((ms.take cut).length = cut) := hmt
    have Hmd : Hid ((ms.drop cut).length = ms.length - cut) := hmd
    have Hcut : Hid (subt (subt ps (ms.take cut)) (ms.drop cut) = subt ps ms) := subt_cut ps ms cut hPA hMA
    have hbA : (subt ps (ms.take cut)).length ≤ 500000000 := subt_bound ps (ms.take cut) (by omega) (by omega)
    have hbS : (subt ps ms).length ≤ 500000000 := subt_bound ps ms (by omega) (by omega)
    clear hmt hmd
    by_cases h0 : 0 < ms.length
    · rcases hx25 with hx | ⟨b2, o2, rfl, hb2, hat2⟩
      · subst hx; simp at h0
      · have hrA : Rd w5 (some ⟨b2, o2, none⟩) (ms.take cut) := .inr ⟨b2, o2, rfl, hb2, hat2.upto⟩
        by_cases hcn : cut < ms.length
        · have hcI2 : (cut : Int) < (ms.length : Int) := by omega
          have hcI3 : (0 : Int) ≤ (cut : Int) := by omega
          have hrB : Rd w5 (some ⟨b2, o2 + cut * 3, none⟩) (ms.drop cut) := .inr ⟨b2, _, rfl, hb2, hat2.from⟩
          go_region_held3 (fun _ => True) (trivial) ((first
            | (go_at_call_of 10 (Value.slice x1 ps.length ps.length); refine (sub_any2 x1 (some ⟨b2, o2, none⟩) ps.length ps.length cut ms.length ps (ms.take cut) _ rfl Hmt.out.symm (by exact hx15.drawn _ rfl) (by exact hrA.drawn _ rfl) (by omega) (by rw [Hmt.out]; omega) (by omega)).mono ?_; rintro e w6 ⟨gA, cA, rfl, hb6, hoA⟩)
            | (go_at_call 10; refine (sub_any2 gA (some ⟨b2, o2 + cut * 3, none⟩) (subt ps (ms.take cut)).length cA (ms.length - cut) (ms.length - cut) (subt ps (ms.take cut)) (ms.drop cut) _ rfl Hmd.out.symm hoA (by exact (hrB.drawn w5.drew rfl).below hb6) (by omega) (by rw [Hmd.out]; omega) (by rw [Hcut.out]; omega)).mono ?_; rintro e w7 ⟨gB, cB, rfl, hb7, hoB⟩)))
          rw [Hcut.out] at hoB ⊢
          go_wp2
          go_meet
          case rel => exact ⟨rfl, rfl, gB, cB, rfl, (Below.drewFrom hb6).trans (hb7.mono hb6.size), hoB⟩
        · have hz : ms.length - cut = 0 := by omega
          have Hml : Hid (ms.length = cut) := by show _ = _; omega
          have hrB : Rd w5 (some ⟨b2, o2, none⟩) (ms.drop cut) := .inl (List.eq_nil_of_length_eq_zero (by rw [Hmd.out]; exact hz))
          go_region_held3 (fun _ => True) (trivial) ((first
            | (go_at_call_of 10 (Value.slice x1 ps.length ps.length); refine (sub_any2 x1 (some ⟨b2, o2, none⟩) ps.length ps.length cut ms.length ps (ms.take cut) _ rfl Hmt.out.symm (by exact hx15.drawn _ rfl) (by exact hrA.drawn _ rfl) (by omega) (by rw [Hmt.out]; omega) (by omega)).mono ?_; rintro e w6 ⟨gA, cA, rfl, hb6, hoA⟩)
            | (go_at_call 10; refine (sub_any2 gA (some ⟨b2, o2, none⟩) (subt ps (ms.take cut)).length cA 0 0 (subt ps (ms.take cut)) (ms.drop cut) _ rfl (by rw [Hmd.out]; omega) hoA (by exact (hrB.drawn w5.drew rfl).below hb6) (by omega) (by rw [Hmd.out]; omega) (by rw [Hcut.out]; omega)).mono ?_; rintro e w7 ⟨gB, cB, rfl, hb7, hoB⟩)))
          rw [Hcut.out] at hoB ⊢
          go_wp2
          go_meet
          case rel => exact ⟨by first | rfl | rw [Hml.out], by first | rfl | rw [Hml.out], gB, cB, rfl, (Below.drewFrom hb6).trans (hb7.mono hb6.size), hoB⟩
    · have e0 : ms = [] := List.eq_nil_of_length_eq_zero (by omega)
      subst e0
      have e1 : cut = 0 := by simpa using hcl
      subst e1
      simp only [List.take_nil, List.drop_nil] at Hcut hbA
      clear Hmt Hmd
      cases x2 with
      | none =>
        go_region_held3 (fun _ => True) (trivial) ((first
          | (go_at_call_of 10 (Value.slice x1 ps.length ps.length); refine (sub_any2 x1 none ps.length ps.length 0 0 ps [] _ rfl rfl (by exact hx15.drawn _ rfl) (.inl rfl) (by omega) (by simp) (by omega)).mono ?_; rintro e w6 ⟨gA, cA, rfl, hb6, hoA⟩)
          | (go_at_call 10; refine (sub_any2 gA none (subt ps []).length cA 0 0 (subt ps []) [] _ rfl rfl hoA (.inl rfl) (by omega) (by simp) (by rw [Hcut.out]; omega)).mono ?_; rintro e w7 ⟨gB, cB, rfl, hb7, hoB⟩)))
        rw [Hcut.out] at hoB ⊢
        go_wp2
        go_meet
        case rel => exact ⟨rfl, rfl, gB, cB, rfl, (Below.drewFrom hb6).trans (hb7.mono hb6.size), hoB⟩
      | some y =>
        go_region_held3 (fun _ => True) (trivial) ((first
          | (go_at_call_of 10 (Value.slice x1 ps.length ps.length); refine (sub_any2 x1 (some y) ps.length ps.length 0 0 ps [] _ rfl rfl (by exact hx15.drawn _ rfl) (.inl rfl) (by omega) (by simp) (by omega)).mono ?_; rintro e w6 ⟨gA, cA, rfl, hb6, hoA⟩)
          | (go_at_call 10; refine (sub_any2 gA (some y) (subt ps []).length cA 0 0 (subt ps []) [] _ rfl rfl hoA (.inl rfl) (by omega) (by simp) (by rw [Hcut.out]; omega)).mono ?_; rintro e w7 ⟨gB, cB, rfl, hb7, hoB⟩)))
        rw [Hcut.out] at hoB ⊢
        go_wp2
        go_meet
        case rel => exact ⟨rfl, rfl, gB, cB, rfl, (Below.drewFrom hb6).trans (hb7.mono hb6.size), hoB⟩
  case rest =>
    obtain ⟨rfl, rfl, gb, gd, rfl, hbc, houtc⟩ := hcut
    have hbS : (subt ps ms).length ≤ 500000000 := subt_bound ps ms (by omega) (by omega)
    have hsok := subt_ok ps ms hPA hMA hok1
    have hst := subt_tot ps ms hPA hMA hok1
    have Hws : Hid (∀ i (h : i < ps.length), wsum ps ms (i + 1) = wsum ps ms i + ((ps[i].e - ps[i].s) - cov ps[i].s ps[i].e ms)) := wsum_succ ps ms hPA hMA
    have Hwe : Hid (wsum ps ms ps.length = tot3 (subt ps ms)) := wsum_end ps ms hPA hMA
    have Hwl : Hid (∀ i, wsum ps ms i ≤ tot3 (subt ps ms)) := wsum_le ps ms hPA hMA
    have hga : Rd wc ga (subt ps ms) := hout.below hbc
    have hr1c : Rd wc a1 ps := hr15.below hbc
    have hr2c : Rd wc a2 ms := hr25.below hbc
    have hbelc : Below w'.heap.size w' wc := hbel.trans (hbc.mono hbel.size)
    clear hout hr15 hr25 hx15 hx25
    generalize subt ps ms = out at *
    obtain ⟨b1, o1, ha1, hat1, _⟩ := hr1c.open
    go_wp2_with fail
    refine (same_any ga gb out.length gc out.length gd out _ rfl rfl hga houtc (by omega)).mono ?_
    rintro e w8 ⟨rfl, m8, rfl⟩
    go_wp2
    go_loopg [11, 12] ps.length (fun gk wv iv wr => ∃ i m : Nat, Hid (i + gk = ps.length) ∧ wv = .int .u64 (wsum ps ms i) ∧ iv = .int .i64 i ∧ wr = wc.drewN m)
    case atStart => exact ⟨0, m8, Nat.zero_add _, by rw [wsum_zero], rfl, rfl⟩
    case round =>
      obtain ⟨i, m, hi, rfl, rfl, rfl⟩ := hrel
      by_cases hlt : i < ps.length
      · obtain rfl := ha1 (by omega)
        obtain ⟨e0, e1, e2⟩ := hat1 i hlt
        have hiI : (i : Int) < (ps.length : Int) := by omega
        have hokp := hok1 i hlt
        unfold Pc.ok at hokp
        have hps := PA.at hPA i hlt
        have hcle := cov_le ps[i] ms hMA hps.2
        have hcn := cov_nonneg ps[i].s ps[i].e ms
        have Hs : Hid (wsum ps ms (i + 1) = wsum ps ms i + ((ps[i].e - ps[i].s) - cov ps[i].s ps[i].e ms)) := Hws.out i hlt
        have hw0 := wsum_nonneg ps ms i
        have hw1 : wsum ps ms i + ((ps[i].e - ps[i].s) - cov ps[i].s ps[i].e ms) < 18446744073709551616 := by
          have := Hwl.out (i + 1)
          rw [Hs.out] at this
          omega
        have hcd : cov ps[i].s ps[i].e ms < 18446744073709551616 := by omega
        go_wp2
        go_quiet ((go_at_call 12; refine (covered_any ps[i].s ps[i].e a2 ms.length c2 ms _ rfl (by exact hr2c.drawn _ rfl) hok2 (by omega) (by omega) (by omega) (by omega) (by omega) hcd).mono ?_; rintro e w'' ⟨rfl, md, rfl⟩; exact ⟨rfl, draw_more _ _ _ _⟩))
        go_wp2
        go_roundg (ps.length - (i + 1))
        case measure => have := hi.out; omega
        case rel => exact ⟨i + 1, _, by have := hi.out; show _ = _; omega, by rw [Hs.out], by go_num, rfl⟩
      · have hie : i = ps.length := by have := hi.out; omega
        subst hie
        rw [Hwe.out]
        go_wp2_with fail
        refine (total_any2 ga out.length gc out _ rfl (by exact hga.drawn _ rfl) hsok (by omega) hst).mono ?_
        rintro e w9 ⟨rfl, m9, rfl⟩
        go_wp2
        go_ret
        exact ⟨by simp, by first | exact below_drewN hbelc _ | exact below_drewN (below_drewN hbelc _) _⟩

theorem zzBytes13_any (a b : Option Addr) (n c m d : Nat) (k : Int) (w : World) (hn : n ≤ 9223372036854775807) (hm : m ≤ 9223372036854775807) :
    Calls Try.prog 13 #[.slice a n c, .slice b m d, .int .i64 k] w fun e w' => ∃ B, e = .returned (.bool B) ∧ w' = w := by
  by_cases h1 : n ≤ 1048576
  · by_cases h2 : m ≤ 1048576
    · by_cases h3 : n + m ≤ 1048576
      · go_enter Try.func13, Try.ntmps13
        go_wp2
        go_ret
        exact ⟨_, rfl, rfl⟩
      · have h3' : (1048576 : Int) < (n : Int) + (m : Int) := by omega
        go_enter Try.func13, Try.ntmps13
        go_wp2
        go_ret
        exact ⟨_, rfl, rfl⟩
    · have h2' : (1048576 : Int) < (m : Int) := by omega
      go_enter Try.func13, Try.ntmps13
      go_wp2
      go_ret
      exact ⟨_, rfl, rfl⟩
  · have h1' : (1048576 : Int) < (n : Int) := by omega
    go_enter Try.func13, Try.ntmps13
    go_wp2
    go_ret
    exact ⟨_, rfl, rfl⟩

set_option maxRecDepth 20000 in
theorem fn4_big (a b : Option Addr) (n c m d : Nat) (k : Int) (w : World) (hn : n ≤ 9223372036854775807) (hm : m ≤ 9223372036854775807) (h : 4096 < n ∨ 4096 < m) :
    Calls Try.prog 4 #[.slice a n c, .slice b m d, .int .i64 k] w fun e w' => e = .returned (.bool true) ∧ Below w.heap.size w w' := by
  by_cases h1 : 4096 < n
  · have h1' : (4096 : Int) < (n : Int) := by omega
    go_enter Try.func4, Try.ntmps4
    go_wp2_with fail
    refine (zzBytes13_any a b n c m d k _ hn hm).mono ?_
    rintro e w' ⟨B, rfl, rfl⟩
    cases B with
    | true =>
      go_wp2
      go_ret
      exact ⟨rfl, Below.refl _ _⟩
    | false =>
      go_wp2
      go_ret
      exact ⟨rfl, Below.refl _ _⟩
  · have h2' : (4096 : Int) < (m : Int) := by omega
    go_enter Try.func4, Try.ntmps4
    go_wp2_with fail
    refine (zzBytes13_any a b n c m d k _ hn hm).mono ?_
    rintro e w' ⟨B, rfl, rfl⟩
    cases B with
    | true =>
      go_wp2
      go_ret
      exact ⟨rfl, Below.refl _ _⟩
    | false =>
      go_wp2
      go_ret
      exact ⟨rfl, Below.refl _ _⟩

set_option maxRecDepth 20000 in
theorem fn4_out (a b : Option Addr) (n c m d : Nat) (k : Int) (w : World) (hn : n ≤ 4096) (hm : m ≤ 4096) (hk : k < 0 ∨ (m : Int) < k) :
    Calls Try.prog 4 #[.slice a n c, .slice b m d, .int .i64 k] w fun e w' => e = .returned (.bool true) ∧ Below w.heap.size w w' := by
  by_cases h0 : k < 0
  · go_enter Try.func4, Try.ntmps4
    go_wp2_with fail
    refine (zzBytes13 _ _ _ _ _ _ _ _ hn hm).mono ?_
    rintro e w' ⟨rfl, rfl⟩
    go_wp2
    go_ret
    exact ⟨rfl, Below.refl _ _⟩
  · have h1 : (m : Int) < k := by omega
    have hd3 : decide (k < 0) = false := by simp; omega
    go_enter Try.func4, Try.ntmps4
    go_wp2_with fail
    refine (zzBytes13 _ _ _ _ _ _ _ _ hn hm).mono ?_
    rintro e w' ⟨rfl, rfl⟩
    go_wp2
    go_ret
    exact ⟨rfl, Below.refl _ _⟩

set_option maxRecDepth 20000 in
theorem fn4_no (a1 a2 : Option Addr) (c1 c2 : Nat) (ps ms : List Pc) (cut : Nat) (w : World) (hr1 : Rd w a1 ps) (hr2 : Rd w a2 ms) (hn : ps.length ≤ 4096) (hm : ms.length ≤ 4096) (hcl : cut ≤ ms.length) (h : ¬ (Asc ps true ∧ Asc ms false)) :
    Calls Try.prog 4 #[.slice a1 ps.length c1, .slice a2 ms.length c2, .int .i64 cut] w fun e w' => e = .returned (.bool true) ∧ Below w.heap.size w w' := by
  have hd3 : decide ((cut : Int) < 0) = false := by simp
  have hd4 : decide (ms.length < cut) = false := by simp; omega
  by_cases h1 : Asc ps true
  · have h2 : ¬ Asc ms false := fun e => h ⟨h1, e⟩
    go_enter Try.func4, Try.ntmps4
    go_wp2_with fail
    refine (zzBytes13 _ _ _ _ _ _ _ _ hn hm).mono ?_
    rintro e w' ⟨rfl, rfl⟩
    go_wp2_with fail
    refine (asc_any a1 ps.length c1 ps true true _ rfl hr1 (by omega) ⟨fun _ => h1, fun _ => rfl⟩).mono ?_
    rintro e w1 ⟨rfl, m1, rfl⟩
    go_wp2_with fail
    refine (asc_any a2 ms.length c2 ms false false _ rfl (by exact hr2.drawn _ rfl) (by omega) ⟨fun e => (by cases e), fun e => absurd e h2⟩).mono ?_
    rintro e w2 ⟨rfl, m2, rfl⟩
    go_wp2
    go_ret
    exact ⟨rfl, below_drewN (Below.refl _ _) _⟩
  · go_enter Try.func4, Try.ntmps4
    go_wp2_with fail
    refine (zzBytes13 _ _ _ _ _ _ _ _ hn hm).mono ?_
    rintro e w' ⟨rfl, rfl⟩
    go_wp2_with fail
    refine (asc_any a1 ps.length c1 ps true false _ rfl hr1 (by omega) ⟨fun e => (by cases e), fun e => absurd e h1⟩).mono ?_
    rintro e w1 ⟨rfl, m1, rfl⟩
    go_wp2
    go_ret
    exact ⟨rfl, below_drewN (Below.refl _ _) _⟩

theorem fn4_any (a1 a2 : Option Addr) (n1 c1 n2 c2 : Nat) (k : Int) (ps ms : List Pc) (w : World) (e1 : n1 = ps.length) (e2 : n2 = ms.length) (hl1 : n1 ≤ maxLen) (hl2 : n2 ≤ maxLen) (hr1 : Rd w a1 ps) (hr2 : Rd w a2 ms) (hok1 : ∀ i (h : i < ps.length), ps[i].ok) (hok2 : ∀ i (h : i < ms.length), ms[i].ok) :
    Calls Try.prog 4 #[.slice a1 n1 c1, .slice a2 n2 c2, .int .i64 k] w fun e w' => e = .returned (.bool true) ∧ Below w.heap.size w w' := by
  unfold maxLen at hl1 hl2
  by_cases hb : 4096 < n1 ∨ 4096 < n2
  · exact fn4_big a1 a2 n1 c1 n2 c2 k w (by omega) (by omega) hb
  · by_cases hk : k < 0 ∨ (n2 : Int) < k
    · exact fn4_out a1 a2 n1 c1 n2 c2 k w (by omega) (by omega) hk
    · subst e1 e2
      obtain ⟨cut, rfl⟩ := Int.eq_ofNat_of_zero_le (show 0 ≤ k by omega)
      have hcl : cut ≤ ms.length := by omega
      by_cases hA : Asc ps true ∧ Asc ms false
      · exact fn4_yes a1 a2 c1 c2 ps ms cut w hr1 hr2 hok1 hok2 (by omega) (by omega) hcl hA.1 hA.2
      · exact fn4_no a1 a2 c1 c2 ps ms cut w hr1 hr2 (by omega) (by omega) hcl hA
end Go.Proofs.Qxb6617406a
