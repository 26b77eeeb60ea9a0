import Derived.Test.Qxb6617406aToPieces
import Derived.Test.Qxb6617406aSubtract2
import Derived.Test.Qxb6617406aReads4
import Derived.Test.Qxb6617406aSubLaw2
import Derived.Deep.CutBlock
import Derived.Deep.DeepCutAuto
namespace Go.Proofs.Qxb6617406a
open Go.ChangeShapes Go.WideShapes Go.ChangeAt Go.RowKit

theorem covered_val (s e v : Int) (a : Option Addr) (n c : Nat) (ms : List Pc) (w : World) (hl : n = ms.length) (hr : Rd w a ms) (hok : ∀ i (h : i < ms.length), ms[i].ok) (hn : ms.length ≤ 20000)
    (h1 : 0 ≤ s) (h2 : s < 18446744073709551616) (h3 : 0 ≤ e) (h4 : e < 18446744073709551616) (hc : cov s e ms < 18446744073709551616) (hv : cov s e ms = v) :
    Calls Try.prog 12 #[.int .u64 s, .int .u64 e, .slice a n c] w fun r w' => r = .returned (.int .u64 v) ∧ ∃ m, w' = w.drewN m := by
  subst hv
  exact covered_any s e a n c ms w hl hr hok hn h1 h2 h3 h4 hc

theorem csum_le (ps ms : List Pc) (hp : PA 0 ps) (hm : MA 0 ms) (i : Nat) (h : i ≤ ps.length) : csum ps ms i ≤ lsum ps i := by
  have h1 := lsum_split ps ms hp hm i h
  have h2 := wsum_nonneg ps ms i
  omega

set_option maxRecDepth 20000 in
set_option maxHeartbeats 2000000 in
theorem fn5_yes (a1 a2 : Option Addr) (c1 c2 : Nat) (ps ms : List Pc) (w : World) (hr1 : Rd w a1 ps) (hr2 : Rd w a2 ms) (hok1 : ∀ i (h : i < ps.length), ps[i].ok) (hok2 : ∀ i (h : i < ms.length), ms[i].ok) (hn : ps.length ≤ 4096) (hm : ms.length ≤ 4096) (h1 : Asc ps true) (h2 : Asc ms false) :
    Calls Try.prog 5 #[.slice a1 ps.length c1, .slice a2 ms.length c2] w fun e w' => e = .returned (.bool true) ∧ Below w.heap.size w w' := by
  have hd1 : decide ((4096 : Int) < (ps.length : Int)) = false := by simp; omega
  have hd2 : decide ((4096 : Int) < (ms.length : Int)) = false := by simp; omega
  have hPA := asc_pa ps hok1 h1
  have hMA := asc_ma ms hok2 h2
  have hRA := subt_ma ps ms hPA hMA
  have hbS : (subt ps ms).length ≤ 500000000 := subt_bound ps ms (by omega) (by omega)
  have hbG : (subt ps (subt ps ms)).length ≤ 5000000000000 := by
    have h3 := subt_len ps (subt ps ms) 500000001 (by omega)
    omega
  go_enter Try.func5, Try.ntmps5
  go_wp2_with fail
  refine (zzBytes16 _ _ _ _ _ _ _ hn hm).mono ?_
  rintro e w' ⟨rfl, rfl⟩
  go_wp2_with fail
  refine (asc_any a1 ps.length c1 ps true true _ rfl hr1 (by omega) ⟨fun _ => h1, fun _ => rfl⟩).mono ?_
  rintro e w1 ⟨rfl, m1, rfl⟩
  go_wp2_with fail
  refine (asc_any a2 ms.length c2 ms false true _ rfl (by exact hr2.drawn _ rfl) (by omega) ⟨fun _ => h2, fun _ => rfl⟩).mono ?_
  rintro e w2 ⟨rfl, m2, rfl⟩
  go_wp2_with fail
  refine (toPieces_any a1 c1 ps.length ps _ rfl (by exact hr1.drawn _ rfl) hn).mono ?_
  rintro e w3 ⟨x1, rfl, hb3, hx1⟩
  have hr2' : Rd w3 a2 ms := (hr2.drawn (w'.drewN (m1 + m2)) rfl).below hb3
  go_wp2_with fail
  refine (toPieces_any a2 c2 ms.length ms _ rfl hr2' hm).mono ?_
  rintro e w4 ⟨x2, rfl, hb4, hx2⟩
  have hx1' := hx1.below hb4
  go_wp2_with fail
  refine (sub_any x1 x2 ps.length ps.length ms.length ms.length ps ms _ rfl rfl hx1' hx2 (by omega) (by omega)).mono ?_
  rintro e w5 ⟨ga, gc, rfl, hb5, hout⟩
  go_wp2_with fail
  refine (sub_any2 x1 ga ps.length ps.length (subt ps ms).length gc ps (subt ps ms) _ rfl rfl (hx1'.below hb5) hout (by omega) (by omega) hbG).mono ?_
  rintro e w6 ⟨gb, gd, rfl, hb6, hgot⟩
  have hr26 : Rd w6 a2 ms := ((hr2'.below hb4).below hb5).below hb6
  have hr16 : Rd w6 a1 ps := ((((hr1.drawn (w'.drewN (m1 + m2)) rfl).below hb3).below hb4).below hb5).below hb6
  have hout6 : Rd w6 ga (subt ps ms) := hout.below hb6
  have hbel : Below w'.heap.size w' w6 := by
    have h0 : Below w'.heap.size w' (w'.drewN (m1 + m2)) := below_drewN (Below.refl _ _) _
    exact h0.trans (hb3.trans ((hb4.mono hb3.size).trans ((hb5.mono (Nat.le_trans hb3.size hb4.size)).trans (hb6.mono (Nat.le_trans hb3.size (Nat.le_trans hb4.size hb5.size))))))
  have Hgt : Hid (tot3 (subt ps (subt ps ms)) = csum ps ms ps.length) := got_tot ps ms hPA hMA
  have Hrt : Hid (tot3 (subt ps ms) = lsum ps ps.length - csum ps ms ps.length) := rest_tot ps ms hPA hMA
  have Hgc : Hid (∀ q ∈ subt ps (subt ps ms), ∃ i, ∃ h : i < ps.length, Ins q ps[i] ∧ q.s < q.e ∧ cov q.s q.e ms = q.e - q.s) := got_cov ps ms hPA hMA
  have hGok := subt_ok ps (subt ps ms) hPA hRA hok1
  have hGt := subt_tot ps (subt ps ms) hPA hRA hok1
  have hRok := subt_ok ps ms hPA hMA hok1
  have hRt := subt_tot ps ms hPA hMA hok1
  have hGA := subt_ma ps (subt ps ms) hPA hRA
  clear hr1 hr2 hr2' hx1 hx1' hx2 hb3 hb4 hb5 hb6 hout
  generalize subt ps (subt ps ms) = got at *
  generalize subt ps ms = rest at *
  obtain ⟨b1, o1, ha1, hat1, _⟩ := hr16.open
  obtain ⟨bg, og, hag, hatg, hblg⟩ := hgot.open
  go_upto_block 0 with fail
  go_cut [8, 9] (fun tv cv wr => tv = .int .u64 (lsum ps ps.length) ∧ cv = .int .u64 (csum ps ms ps.length) ∧ ∃ m : Nat, wr = w6.drewN m)
  case first =>
    go_wp2
    go_loopg [8, 9, 10] ps.length (fun gk tv cv iv wr => ∃ i m : Nat, Hid (i + gk = ps.length) ∧ tv = .int .u64 (lsum ps i) ∧ cv = .int .u64 (csum ps ms i) ∧ iv = .int .i64 i ∧ wr = w6.drewN m)
    case atStart => exact ⟨0, 0, Nat.zero_add _, rfl, rfl, rfl, rfl⟩
    case round =>
      obtain ⟨i, m, hi, rfl, rfl, rfl, rfl⟩ := hrel
      by_cases hlt : i < ps.length
      · obtain rfl := ha1 (by omega)
        obtain ⟨e0, e1, e2⟩ := hat1 i hlt
        have hiI : (i : Int) < (ps.length : Int) := by omega
        have hokp := hok1 i hlt
        unfold Pc.ok at hokp
        have hps := PA.at hPA i hlt
        have hcle := cov_le ps[i] ms hMA hps.2
        have hcn := cov_nonneg ps[i].s ps[i].e ms
        have Hl : Hid (lsum ps (i + 1) = lsum ps i + (ps[i].e - ps[i].s)) := lsum_succ ps hPA i hlt
        have Hc : Hid (csum ps ms (i + 1) = csum ps ms i + cov ps[i].s ps[i].e ms) := csum_succ ps ms i hlt
        have hl0 := lsum_lt ps hPA hok1 i
        have hl1 : lsum ps i + (ps[i].e - ps[i].s) < 18446744073709551616 := by
          have := (lsum_lt ps hPA hok1 (i + 1)).2
          rw [Hl.out] at this
          exact this
        have hc0 := csum_nonneg ps ms i
        have hc1 : csum ps ms i + cov ps[i].s ps[i].e ms < 18446744073709551616 := by
          have h8 := csum_le ps ms hPA hMA (i + 1) (by omega)
          rw [Hc.out, Hl.out] at h8
          omega
        have hcd : cov ps[i].s ps[i].e ms < 18446744073709551616 := by omega
        go_wp2
        go_quiet (fail)
        go_wp2
        go_quiet ((go_at_call 12; refine (covered_any ps[i].s ps[i].e a2 ms.length c2 ms _ rfl (by exact hr26.drawn _ rfl) hok2 (by omega) (by omega) (by omega) (by omega) (by omega) hcd).mono ?_; rintro e w'' ⟨rfl, md, rfl⟩; exact ⟨rfl, draw_more _ _ _ _⟩))
        go_wp2
        go_roundg (ps.length - (i + 1))
        case measure => have := hi.out; omega
        case rel => exact ⟨i + 1, _, by have := hi.out; show _ = _; omega, by rw [Hl.out], by rw [Hc.out], by go_num, rfl⟩
      · have hie : i = ps.length := by have := hi.out; omega
        subst hie
        go_wp2
        go_meet
        case rel => exact ⟨rfl, rfl, _, rfl⟩
  case rest =>
    obtain ⟨rfl, rfl, m6, rfl⟩ := hcut
    have hl0 := lsum_lt ps hPA hok1 ps.length
    have hc0 := csum_nonneg ps ms ps.length
    have hcl := csum_le ps ms hPA hMA ps.length (Nat.le_refl _)
    go_upto_block 2 with fail
    go_cut [11] (fun _ wr => Below w6.heap.size w6 wr)
    case first =>
      go_wp2
      go_loopg [11] got.length (fun gk kv wr => ∃ k : Nat, Hid (k + gk = got.length) ∧ kv = .int .i64 k ∧ Below w6.heap.size w6 wr)
      case atStart => exact ⟨0, Nat.zero_add _, rfl, below_drewN (Below.refl _ _) _⟩
      case round =>
        obtain ⟨k, hk, rfl, hbw⟩ := hrel
        by_cases hlt : k < got.length
        · obtain rfl := hag (by omega)
          have hatw := hatg.below hbw (hblg (by omega))
          obtain ⟨e0, e1, e2⟩ := hatw k hlt
          have hkI : (k : Int) < (got.length : Int) := by omega
          have hokq := hGok k hlt
          unfold Pc.ok at hokq
          obtain ⟨ii, hii, hins, hqlt, hqc⟩ := Hgc.out got[k] (List.getElem_mem hlt)
          have Hin : Hid (∃ i, ∃ h : i < ps.length, Ins got[k] ps[i]) := ⟨ii, hii, hins⟩
          have Hqc : Hid (cov got[k].s got[k].e ms = got[k].e - got[k].s) := hqc
          have hd5 : decide (got[k].e ≤ got[k].s) = false := by simp; omega
          have hcd : cov got[k].s got[k].e ms < 18446744073709551616 := by rw [hqc]; omega
          clear hqc hins
          obtain ⟨q, hq⟩ : ∃ q, q = got[k] := ⟨_, rfl⟩
          rw [← hq] at e0 e1 e2 hokq hqlt Hin Hqc hd5 hcd
          by_cases hk0 : 0 < k
          · have hI0 : decide ((0 : Int) < (k : Int)) = true := by simp; omega
            obtain ⟨f0, f1, f2⟩ := hatw (k - 1) (by omega)
            have hk1 : (1 : Int) ≤ (k : Int) := by omega
            have hnx : got[k - 1].e ≤ q.s := by
              have h9 := MA.next hGA (k - 1) (by omega)
              simp only [Nat.sub_add_cancel hk0] at h9
              rw [hq]
              exact h9
            have hpe2 : decide (q.s < got[k - 1].e) = false := by simp; omega
            have hf1 : ∀ ob, (wr.alloc ob).cell? ⟨bg, og + (k - 1) * 3 + 1, none⟩ = some (.int .u64 got[k - 1].e) := fun ob => (World.cell?_of_block (Below.heap_alloc wr ob _ (by have := hblg (by omega); have := hbw.size; simp; omega))).trans f1
            clear hq
            go_wp2
            go_quiet (fail)
            go_wp2_with fail
            refine (inside_any q a1 ps.length c1 ps _ rfl (by exact (hr16.below (hbw.alloc hbw.size _)).drawn _ rfl) (by omega) Hin.out).mono ?_
            rintro e w7 ⟨rfl, hb7⟩
            have hb7' : Below (wr.alloc (.cells #[.int .u64 q.s, .int .u64 q.e, .int .i64 q.o] 34)).heap.size (wr.alloc (.cells #[.int .u64 q.s, .int .u64 q.e, .int .i64 q.o] 34)) w7 := ⟨hb7.os, hb7.tape, hb7.output, hb7.size, hb7.block⟩
            obtain ⟨t0, t1, t2⟩ := (trio_new wr q 34).of_block (hb7'.block wr.heap.size (by simp))
            have hb76 : Below w6.heap.size w6 w7 := (hbw.alloc hbw.size (.cells #[.int .u64 q.s, .int .u64 q.e, .int .i64 q.o] 34)).trans (hb7'.mono (by have := hbw.size; simp; omega))
            have hr27 : Rd w7 a2 ms := hr26.below hb76
            clear hb7 hb7'
            go_wp2
            go_quiet ((go_at_call 12; refine Calls.quiet_of (covered_val q.s q.e (q.e - q.s) a2 ms.length c2 ms _ rfl (by exact hr27.drawn _ rfl) hok2 (by omega) (by omega) (by omega) (by omega) (by omega) hcd Hqc.out)))
            go_wp2
            go_roundg (got.length - (k + 1))
            case measure => have := hk.out; omega
            case rel => exact ⟨k + 1, by have := hk.out; show _ = _; omega, by go_num, below_drewN hb76 _⟩
          · have hI0 : decide (0 < k) = false := by simpa using hk0
            clear hq
            go_wp2
            go_quiet (fail)
            go_wp2_with fail
            refine (inside_any q a1 ps.length c1 ps _ rfl (by exact (hr16.below (hbw.alloc hbw.size _)).drawn _ rfl) (by omega) Hin.out).mono ?_
            rintro e w7 ⟨rfl, hb7⟩
            have hb7' : Below (wr.alloc (.cells #[.int .u64 q.s, .int .u64 q.e, .int .i64 q.o] 34)).heap.size (wr.alloc (.cells #[.int .u64 q.s, .int .u64 q.e, .int .i64 q.o] 34)) w7 := ⟨hb7.os, hb7.tape, hb7.output, hb7.size, hb7.block⟩
            obtain ⟨t0, t1, t2⟩ := (trio_new wr q 34).of_block (hb7'.block wr.heap.size (by simp))
            have hb76 : Below w6.heap.size w6 w7 := (hbw.alloc hbw.size (.cells #[.int .u64 q.s, .int .u64 q.e, .int .i64 q.o] 34)).trans (hb7'.mono (by have := hbw.size; simp; omega))
            have hr27 : Rd w7 a2 ms := hr26.below hb76
            clear hb7 hb7'
            go_wp2
            go_quiet ((go_at_call 12; refine Calls.quiet_of (covered_val q.s q.e (q.e - q.s) a2 ms.length c2 ms _ rfl (by exact hr27.drawn _ rfl) hok2 (by omega) (by omega) (by omega) (by omega) (by omega) hcd Hqc.out)))
            go_wp2
            go_roundg (got.length - (k + 1))
            case measure => have := hk.out; omega
            case rel => exact ⟨k + 1, by have := hk.out; show _ = _; omega, by go_num, below_drewN hb76 _⟩
        · go_wp2
          go_meet
          case rel => exact hbw
    case rest =>
      have hgw : Rd wc gb got := hgot.below hcut
      have hrw : Rd wc ga rest := hout6.below hcut
      go_wp2_with fail
      refine (total_any2 gb got.length gd got _ rfl hgw hGok hbG hGt).mono ?_
      rintro e w8 ⟨rfl, m8, rfl⟩
      rw [Hgt.out]
      go_wp2_with fail
      refine (total_any2 ga rest.length gc rest _ rfl (by exact hrw.drawn _ rfl) hRok (by omega) hRt).mono ?_
      rintro e w9 ⟨rfl, m9, rfl⟩
      rw [Hrt.out]
      go_wp2
      go_ret
      exact ⟨by simp, by first | exact below_drewN (hbel.trans (hcut.mono hbel.size)) _ | exact below_drewN (below_drewN (hbel.trans (hcut.mono hbel.size)) _) _⟩

theorem zzBytes16_any (a b : Option Addr) (n c m d : Nat) (w : World) (hn : n ≤ 9223372036854775807) (hm : m ≤ 9223372036854775807) :
    Calls Try.prog 16 #[.slice a n c, .slice b m d] w fun e w' => ∃ B, e = .returned (.bool B) ∧ w' = w := by
  by_cases h1 : n ≤ 1048576
  · by_cases h2 : m ≤ 1048576
    · by_cases h3 : n + m ≤ 1048576
      · go_enter Try.func16, Try.ntmps16
        go_wp2
        go_ret
        exact ⟨_, rfl, rfl⟩
      · have h3' : (1048576 : Int) < (n : Int) + (m : Int) := by omega
        go_enter Try.func16, Try.ntmps16
        go_wp2
        go_ret
        exact ⟨_, rfl, rfl⟩
    · have h2' : (1048576 : Int) < (m : Int) := by omega
      go_enter Try.func16, Try.ntmps16
      go_wp2
      go_ret
      exact ⟨_, rfl, rfl⟩
  · have h1' : (1048576 : Int) < (n : Int) := by omega
    go_enter Try.func16, Try.ntmps16
    go_wp2
    go_ret
    exact ⟨_, rfl, rfl⟩

set_option maxRecDepth 20000 in
theorem fn5_big (a b : Option Addr) (n c m d : Nat) (w : World) (hn : n ≤ 9223372036854775807) (hm : m ≤ 9223372036854775807) (h : 4096 < n ∨ 4096 < m) :
    Calls Try.prog 5 #[.slice a n c, .slice b m d] w fun e w' => e = .returned (.bool true) ∧ Below w.heap.size w w' := by
  by_cases h1 : 4096 < n
  · have h1' : (4096 : Int) < (n : Int) := by omega
    go_enter Try.func5, Try.ntmps5
    go_wp2_with fail
    refine (zzBytes16_any a b n c m d _ hn hm).mono ?_
    rintro e w' ⟨B, rfl, rfl⟩
    cases B with
    | true =>
      go_wp2
      go_ret
      exact ⟨rfl, Below.refl _ _⟩
    | false =>
      go_wp2
      go_ret
      exact ⟨rfl, Below.refl _ _⟩
  · have h2' : (4096 : Int) < (m : Int) := by omega
    go_enter Try.func5, Try.ntmps5
    go_wp2_with fail
    refine (zzBytes16_any a b n c m d _ hn hm).mono ?_
    rintro e w' ⟨B, rfl, rfl⟩
    cases B with
    | true =>
      go_wp2
      go_ret
      exact ⟨rfl, Below.refl _ _⟩
    | false =>
      go_wp2
      go_ret
      exact ⟨rfl, Below.refl _ _⟩

set_option maxRecDepth 20000 in
theorem fn5_no (a1 a2 : Option Addr) (c1 c2 : Nat) (ps ms : List Pc) (w : World) (hr1 : Rd w a1 ps) (hr2 : Rd w a2 ms) (hn : ps.length ≤ 4096) (hm : ms.length ≤ 4096) (h : ¬ (Asc ps true ∧ Asc ms false)) :
    Calls Try.prog 5 #[.slice a1 ps.length c1, .slice a2 ms.length c2] w fun e w' => e = .returned (.bool true) ∧ Below w.heap.size w w' := by
  by_cases h1 : Asc ps true
  · have h2 : ¬ Asc ms false := fun e => h ⟨h1, e⟩
    go_enter Try.func5, Try.ntmps5
    go_wp2_with fail
    refine (zzBytes16 _ _ _ _ _ _ _ hn hm).mono ?_
    rintro e w' ⟨rfl, rfl⟩
    go_wp2_with fail
    refine (asc_any a1 ps.length c1 ps true true _ rfl hr1 (by omega) ⟨fun _ => h1, fun _ => rfl⟩).mono ?_
    rintro e w1 ⟨rfl, m1, rfl⟩
    go_wp2_with fail
    refine (asc_any a2 ms.length c2 ms false false _ rfl (by exact hr2.drawn _ rfl) (by omega) ⟨fun e => (by cases e), fun e => absurd e h2⟩).mono ?_
    rintro e w2 ⟨rfl, m2, rfl⟩
    go_wp2
    go_ret
    exact ⟨rfl, below_drewN (Below.refl _ _) _⟩
  · go_enter Try.func5, Try.ntmps5
    go_wp2_with fail
    refine (zzBytes16 _ _ _ _ _ _ _ hn hm).mono ?_
    rintro e w' ⟨rfl, rfl⟩
    go_wp2_with fail
    refine (asc_any a1 ps.length c1 ps true false _ rfl hr1 (by omega) ⟨fun e => (by cases e), fun e => absurd e h1⟩).mono ?_
    rintro e w1 ⟨rfl, m1, rfl⟩
    go_wp2
    go_ret
    exact ⟨rfl, below_drewN (Below.refl _ _) _⟩

theorem fn5_any (a1 a2 : Option Addr) (n1 c1 n2 c2 : Nat) (ps ms : List Pc) (w : World) (e1 : n1 = ps.length) (e2 : n2 = ms.length) (hl1 : n1 ≤ maxLen) (hl2 : n2 ≤ maxLen) (hr1 : Rd w a1 ps) (hr2 : Rd w a2 ms) (hok1 : ∀ i (h : i < ps.length), ps[i].ok) (hok2 : ∀ i (h : i < ms.length), ms[i].ok) :
    Calls Try.prog 5 #[.slice a1 n1 c1, .slice a2 n2 c2] w fun e w' => e = .returned (.bool true) ∧ Below w.heap.size w w' := by
  unfold maxLen at hl1 hl2
  by_cases hb : 4096 < n1 ∨ 4096 < n2
  · exact fn5_big a1 a2 n1 c1 n2 c2 w (by omega) (by omega) hb
  · subst e1 e2
    by_cases hA : Asc ps true ∧ Asc ms false
    · exact fn5_yes a1 a2 c1 c2 ps ms w hr1 hr2 hok1 hok2 (by omega) (by omega) hA.1 hA.2
    · exact fn5_no a1 a2 c1 c2 ps ms w hr1 hr2 (by omega) (by omega) hA
end Go.Proofs.Qxb6617406a
