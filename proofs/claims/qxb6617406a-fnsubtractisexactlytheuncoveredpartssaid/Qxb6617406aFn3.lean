import Derived.Test.Qxb6617406aToPieces
import Derived.Test.Qxb6617406aSubtract
import Derived.Test.Qxb6617406aSubIdx
import Derived.Deep.CutBlock
import Derived.Deep.DeepCutAuto
namespace Go.Proofs.Qxb6617406a
open Go.ChangeShapes Go.WideShapes Go.ChangeAt Go.RowKit

theorem zzBytes8_any (a b : Option Addr) (n c m d : Nat) (w : World) (hn : n ≤ 9223372036854775807) (hm : m ≤ 9223372036854775807) :
    Calls Try.prog 8 #[.slice a n c, .slice b m d] w fun e w' => ∃ B, e = .returned (.bool B) ∧ w' = w := by
  by_cases h1 : n ≤ 1048576
  · by_cases h2 : m ≤ 1048576
    · by_cases h3 : n + m ≤ 1048576
      · go_enter Try.func8, Try.ntmps8
        go_wp2
        go_ret
        exact ⟨_, rfl, rfl⟩
      · have h3' : (1048576 : Int) < (n : Int) + (m : Int) := by omega
        go_enter Try.func8, Try.ntmps8
        go_wp2
        go_ret
        exact ⟨_, rfl, rfl⟩
    · have h2' : (1048576 : Int) < (m : Int) := by omega
      go_enter Try.func8, Try.ntmps8
      go_wp2
      go_ret
      exact ⟨_, rfl, rfl⟩
  · have h1' : (1048576 : Int) < (n : Int) := by omega
    go_enter Try.func8, Try.ntmps8
    go_wp2
    go_ret
    exact ⟨_, rfl, rfl⟩

set_option maxRecDepth 20000 in
theorem fn3_big (a b : Option Addr) (n c m d : Nat) (w : World) (hn : n ≤ 9223372036854775807) (hm : m ≤ 9223372036854775807) (h : 4096 < n ∨ 4096 < m) :
    Calls Try.prog 3 #[.slice a n c, .slice b m d] w fun e w' => e = .returned (.bool true) ∧ Below w.heap.size w w' := by
  by_cases h1 : 4096 < n
  · have h1' : (4096 : Int) < (n : Int) := by omega
    go_enter Try.func3, Try.ntmps3
    go_wp2_with fail
    refine (zzBytes8_any a b n c m d _ hn hm).mono ?_
    rintro e w' ⟨B, rfl, rfl⟩
    cases B with
    | true =>
      go_wp2
      go_ret
      exact ⟨rfl, Below.refl _ _⟩
    | false =>
      go_wp2
      go_ret
      exact ⟨rfl, Below.refl _ _⟩
  · have h2' : (4096 : Int) < (m : Int) := by omega
    go_enter Try.func3, Try.ntmps3
    go_wp2_with fail
    refine (zzBytes8_any a b n c m d _ hn hm).mono ?_
    rintro e w' ⟨B, rfl, rfl⟩
    cases B with
    | true =>
      go_wp2
      go_ret
      exact ⟨rfl, Below.refl _ _⟩
    | false =>
      go_wp2
      go_ret
      exact ⟨rfl, Below.refl _ _⟩

set_option maxRecDepth 20000 in
theorem fn3_no (a1 a2 : Option Addr) (c1 c2 : Nat) (ps ms : List Pc) (w : World) (hr1 : Rd w a1 ps) (hr2 : Rd w a2 ms) (hn : ps.length ≤ 4096) (hm : ms.length ≤ 4096) (h : ¬ (Asc ps true ∧ Asc ms false)) :
    Calls Try.prog 3 #[.slice a1 ps.length c1, .slice a2 ms.length c2] w fun e w' => e = .returned (.bool true) ∧ Below w.heap.size w w' := by
  by_cases h1 : Asc ps true
  · have h2 : ¬ Asc ms false := fun e => h ⟨h1, e⟩
    go_enter Try.func3, Try.ntmps3
    go_wp2_with fail
    refine (zzBytes8 _ _ _ _ _ _ _ hn hm).mono ?_
    rintro e w' ⟨rfl, rfl⟩
    go_wp2_with fail
    refine (asc_any a1 ps.length c1 ps true true _ rfl hr1 (by omega) ⟨fun _ => h1, fun _ => rfl⟩).mono ?_
    rintro e w1 ⟨rfl, m1, rfl⟩
    go_wp2_with fail
    refine (asc_any a2 ms.length c2 ms false false _ rfl (by exact hr2.drawn _ rfl) (by omega) ⟨fun e => (by cases e), fun e => absurd e h2⟩).mono ?_
    rintro e w2 ⟨rfl, m2, rfl⟩
    go_wp2
    go_ret
    exact ⟨rfl, below_drewN (Below.refl _ _) _⟩
  · go_enter Try.func3, Try.ntmps3
    go_wp2_with fail
    refine (zzBytes8 _ _ _ _ _ _ _ hn hm).mono ?_
    rintro e w' ⟨rfl, rfl⟩
    go_wp2_with fail
    refine (asc_any a1 ps.length c1 ps true false _ rfl hr1 (by omega) ⟨fun e => (by cases e), fun e => absurd e h1⟩).mono ?_
    rintro e w1 ⟨rfl, m1, rfl⟩
    go_wp2
    go_ret
    exact ⟨rfl, below_drewN (Below.refl _ _) _⟩

set_option maxRecDepth 20000 in
set_option maxHeartbeats 2000000 in
theorem fn3_yes (a1 a2 : Option Addr) (c1 c2 : Nat) (ps ms : List Pc) (w : World) (hr1 : Rd w a1 ps) (hr2 : Rd w a2 ms) (hok1 : ∀ i (h : i < ps.length), ps[i].ok) (hok2 : ∀ i (h : i < ms.length), ms[i].ok) (hn : ps.length ≤ 4096) (hm : ms.length ≤ 4096) (h1 : Asc ps true) (h2 : Asc ms false) :
    Calls Try.prog 3 #[.slice a1 ps.length c1, .slice a2 ms.length c2] w fun e w' => e = .returned (.bool true) ∧ Below w.heap.size w w' := by
  have hd1 : decide ((4096 : Int) < (ps.length : Int)) = false := by simp; omega
  have hd2 : decide ((4096 : Int) < (ms.length : Int)) = false := by simp; omega
  have hPA := asc_pa ps hok1 h1
  have hMA := asc_ma ms hok2 h2
  go_enter Try.func3, Try.ntmps3
  go_wp2_with fail
  refine (zzBytes8 _ _ _ _ _ _ _ hn hm).mono ?_
  rintro e w' ⟨rfl, rfl⟩
  go_wp2_with fail
  refine (asc_any a1 ps.length c1 ps true true _ rfl hr1 (by omega) ⟨fun _ => h1, fun _ => rfl⟩).mono ?_
  rintro e w1 ⟨rfl, m1, rfl⟩
  go_wp2_with fail
  refine (asc_any a2 ms.length c2 ms false true _ rfl (by exact hr2.drawn _ rfl) (by omega) ⟨fun _ => h2, fun _ => rfl⟩).mono ?_
  rintro e w2 ⟨rfl, m2, rfl⟩
  go_wp2_with fail
  refine (toPieces_any a1 c1 ps.length ps _ rfl (by exact hr1.drawn _ rfl) hn).mono ?_
  rintro e w3 ⟨x1, rfl, hb3, hx1⟩
  have hr2' : Rd w3 a2 ms := (hr2.drawn (w'.drewN (m1 + m2)) rfl).below hb3
  go_wp2_with fail
  refine (toPieces_any a2 c2 ms.length ms _ rfl hr2' hm).mono ?_
  rintro e w4 ⟨x2, rfl, hb4, hx2⟩
  go_wp2_with fail
  refine (sub_any x1 x2 ps.length ps.length ms.length ms.length ps ms _ rfl rfl (hx1.below hb4) hx2 (by omega) (by omega)).mono ?_
  rintro e w5 ⟨ga, gc, rfl, hb5, hout⟩
  have hr25 : Rd w5 a2 ms := (hr2'.below hb4).below hb5
  have hr15 : Rd w5 a1 ps := (((hr1.drawn (w'.drewN (m1 + m2)) rfl).below hb3).below hb4).below hb5
  have hbel : Below w'.heap.size w' w5 := by
    have h0 : Below w'.heap.size w' (w'.drewN (m1 + m2)) := below_drewN (Below.refl _ _) _
    exact h0.trans (hb3.trans ((hb4.mono hb3.size).trans (hb5.mono (Nat.le_trans hb3.size hb4.size))))
  have hob : (subt ps ms).length ≤ 500000000 := subt_bound ps ms (by omega) (by omega)
  clear hr1 hr2 hr2' hx1 hx2 hb3 hb4 hb5
  obtain ⟨bo, oo, hao, hato, hblo⟩ := hout.open
  obtain ⟨b1, o1, ha1, hat1, hbl1⟩ := hr15.open
  obtain ⟨K, hK0, hend0, hseg0⟩ := segs ps ms hPA hMA
  have HK0 : Hid (K 0 = 0) := hK0
  have Hend : Hid (K ps.length = (subt ps ms).length) := hend0
  have Hseg : Hid (∀ i (h : i < ps.length), ∃ D, K (i + 1) = K i + D.length ∧ Seg (subt ps ms) (K i) ps[i] ms D) := hseg0
  clear hK0 hend0 hseg0
  generalize subt ps ms = out at *
  go_wp2
  go_loopg [6, 7] ps.length (fun gk kv iv wr => ∃ i : Nat, Hid (i + gk = ps.length) ∧ kv = .int .i64 (K i : Nat) ∧ K i ≤ out.length ∧ iv = .int .i64 i ∧ Below w5.heap.size w5 wr)
  case atStart => exact ⟨0, Nat.zero_add _, by rw [HK0.out]; rfl, by rw [HK0.out]; exact Nat.zero_le _, rfl, Below.refl _ _⟩
  case round =>
    obtain ⟨i, hi, rfl, hKi, rfl, hbw⟩ := hrel
    by_cases hlt : i < ps.length
    · obtain rfl := ha1 (by omega)
      have hbl1' := hbl1 (by omega)
      obtain ⟨d0, d1, d2⟩ := (hat1.below hbw hbl1') i hlt
      have hiI : (i : Int) < (ps.length : Int) := by omega
      have hokp := hok1 i hlt
      unfold Pc.ok at hokp
      obtain ⟨D, hKi0, hseg⟩ := Hseg.out i hlt
      have HKi : Hid (K (i + 1) = K i + D.length) := hKi0
      clear hKi0
      have hcl := hseg.cle
      have hple := hseg.le
      generalize ps[i] = p at *
      have hcn := cov_nonneg p.s p.e ms
      go_upto_block 2 with fail
      obtain ⟨W, hW⟩ : ∃ W, W = wr.alloc (.cells #[.int .u64 p.s, .int .u64 p.e, .int .i64 p.o] 30) := ⟨_, rfl⟩
      rw [← hW]
      have htrio : Trio W wr.heap.size p := by rw [hW]; exact trio_new wr p 30
      have hPW : wr.heap.size < W.heap.size := by rw [hW]; simp
      have hbW : Below w5.heap.size w5 W := by rw [hW]; exact hbw.alloc hbw.size _
      generalize wr.heap.size = P at *
      clear hW d0 d1 d2 hbw
      go_cut [6, 9] (fun kv hv wi => kv = .int .i64 (K (i + 1) : Nat) ∧ K (i + 1) ≤ out.length ∧ hv = .int .u64 (p.e - p.s - cov p.s p.e ms) ∧ Below W.heap.size W wi)
      case first =>
        go_wp2
        go_loopg [6, 9, 10, 11] D.length (fun gk kv hv pv fv wi => ∃ (t x : Nat) (pe : Int) (fb : Bool), Hid (t + gk = D.length) ∧ Hid (x = K i + t) ∧ x ≤ out.length ∧ kv = .int .i64 x ∧ hv = .int .u64 (tot3 (D.take t)) ∧ pv = .int .u64 pe ∧ fv = .bool fb ∧ Hid (fb = false → ∀ h : t < D.length, pe < D[t].s) ∧ Below W.heap.size W wi)
        case atStart => exact ⟨0, K i, 0, true, Nat.zero_add _, rfl, hKi, rfl, rfl, rfl, rfl, fun h => (by cases h), Below.refl _ _⟩
        case round =>
          obtain ⟨t, x, pe, fb, hg, hx, hxl, rfl, rfl, rfl, rfl, hfb, hbi⟩ := hrel
          obtain ⟨q0, q1, q2⟩ := htrio.of_block (hbi.block P hPW)
          have hbwi : Below w5.heap.size w5 wr := hbW.trans (hbi.mono hbW.size)
          by_cases ht : t < D.length
          · obtain ⟨hk, hq⟩ := hseg.here t ht
            obtain rfl := hao (by omega)
            have hk' : x < out.length := by rw [hx.out]; exact hk
            obtain ⟨e0, e1, e2⟩ := (hato.below hbwi (hblo (by omega))) x hk'
            have hq' : out[x] = D[t] := by simp only [hx.out]; exact hq
            rw [hq'] at e0 e1 e2
            obtain ⟨m1', m2', m3', m4'⟩ := hseg.mem t ht
            rw [m4'] at e2
            have HFt : Hid (cov D[t].s D[t].e ms = 0) := hseg.free t ht
            have HTt : Hid (tot3 (D.take (t + 1)) = tot3 (D.take t) + len1 D[t]) := tot3_take D t ht
            have HLt : Hid (len1 D[t] = D[t].e - D[t].s) := by show _ = _; unfold len1; rw [if_pos m2']
            have hb1 := tot3_nonneg (D.take t)
            have hb2 : tot3 (D.take t) + (D[t].e - D[t].s) ≤ p.e - p.s := by
              have h3 := tot3_take_le D (t + 1)
              rw [HTt.out, HLt.out, hseg.tot] at h3
              omega
            have hxI : (x : Int) < (out.length : Int) := by omega
            have hdx : decide ((x : Int) < (out.length : Int)) = true := by simp; omega
            have hdx2 : decide (D[t].s < D[t].e) = true := by simpa using m2'
            have hdx3 : decide (p.s ≤ D[t].s) = true := by simpa using m1'
            have hdx4 : decide (D[t].e ≤ p.e) = true := by simpa using m3'
            have HGt : Hid (∀ (h : t + 1 < D.length), D[t].e < D[t + 1].s) := fun h => hseg.gap t h
            clear hq hq' m4'
            have hfb2 : fb = false → pe < D[t].s := fun h => hfb.out h ht
            obtain ⟨d, hd⟩ : ∃ d, d = D[t] := ⟨_, rfl⟩
            rw [← hd] at e0 e1 m1' m2' m3' hdx2 hdx3 hdx4 hb2 hfb2 HFt HLt HTt
            have Hd : Hid (d = D[t]) := hd
            clear hd
            have hcd : cov d.s d.e ms < 18446744073709551616 := by rw [HFt.out]; omega
            go_wp2
            go_quiet (fail)
            obtain ⟨V, hV⟩ : ∃ V, V = wr.drewN nq := ⟨_, rfl⟩
            rw [← hV]
            have hbV : Below W.heap.size W V := by rw [hV]; exact below_drewN hbi _
            have hcV : ∀ a, V.cell? a = wr.cell? a := by rw [hV]; exact fun a => rfl
            rw [← hcV] at e0 e1 e2 q0 q1 q2
            have hPV : P < V.heap.size := Nat.lt_of_lt_of_le hPW hbV.size
            have hbV5 : Below w5.heap.size w5 V := hbW.trans (hbV.mono hbW.size)
            clear hV hcV hbi hbwi
            have hfbd : fb = true ∨ (fb = false ∧ decide (d.s ≤ pe) = false) := by
              cases fb with
              | true => exact .inl rfl
              | false => right; have := hfb2 rfl; simp; omega
            clear hfb2 hfb
            rcases hfbd with rfl | ⟨rfl, hfb3⟩
            all_goals
              go_wp2_with fail
              refine (covered_any d.s d.e a2 ms.length c2 ms _ rfl (by exact hr25.below (hbV5.alloc hbV5.size _)) hok2 (by omega) (by omega) (by omega) (by omega) (by omega) hcd).mono ?_
              rintro e w7 ⟨rfl, m7, rfl⟩
              rw [HFt.out]
              have hbF := (below_drewN (hbV.alloc hbV.size (.cells #[.int .u64 d.s, .int .u64 d.e, .int .i64 p.o] 34)) m7)
              go_wp2
              go_roundg (D.length - (t + 1))
              case measure => have := hg.out; omega
              case rel =>
                refine ⟨t + 1, x + 1, d.e, false, by have := hg.out; show _ = _; omega, by have := hx.out; show _ = _; omega, by omega, by go_num, by rw [HTt.out, HLt.out], rfl, rfl, fun _ h => ?_, hbF⟩
                have h9 := HGt.out h
                rw [← Hd.out] at h9
                exact h9
          · have hte : t = D.length := by have := hg.out; omega
            subst hte
            rw [List.take_length, hseg.tot]
            have Hxk : Hid (x = K (i + 1)) := by show _ = _; rw [hx.out, HKi.out]
            by_cases hk : x < out.length
            · obtain rfl := hao (by omega)
              obtain ⟨e0, e1, e2⟩ := (hato.below hbwi (hblo (by omega))) x hk
              have hth : p.e ≤ out[x].s ∧ out[x].s < out[x].e := by
                have h9 := hseg.then_ (by rw [← hx.out]; exact hk)
                simp only [← hx.out] at h9
                exact h9
              obtain ⟨d, hd⟩ : ∃ d, d = out[x] := ⟨_, rfl⟩
              rw [← hd] at e0 e1 e2 hth
              clear hd
              have hxI : (x : Int) < (out.length : Int) := by omega
              have hdx : decide ((x : Int) < (out.length : Int)) = true := by simp; omega
              have hdx2 : decide (d.s < d.e) = true := by simp; omega
              have hdx3 : decide (p.s ≤ d.s) = true := by simp; omega
              have hdx4 : decide (d.e ≤ p.e) = false := by simp; omega
              go_wp2
              go_quiet (fail)
              go_wp2
              go_meet
              case rel => exact ⟨by rw [Hxk.out], by rw [← Hxk.out]; exact hxl, rfl, below_drewN hbi _⟩
            · have hdx : decide (x < out.length) = false := by simpa using hk
              go_wp2
              go_quiet (fail)
              go_wp2
              go_meet
              case rel => exact ⟨by rw [Hxk.out], by rw [← Hxk.out]; exact hxl, rfl, below_drewN hbi _⟩
      case rest =>
        obtain ⟨rfl, hK2, rfl, hbc⟩ := hcut
        obtain ⟨q0, q1, q2⟩ := htrio.of_block (hbc.block P hPW)
        have hbc5 : Below w5.heap.size w5 wc := hbW.trans (hbc.mono hbW.size)
        have hrc : Rd wc a2 ms := hr25.below hbc5
        have hcd : cov p.s p.e ms < 18446744073709551616 := by omega
        go_wp2
        go_quiet ((go_at_call 12; refine Calls.quiet_of (covered_any p.s p.e a2 ms.length c2 ms _ rfl (by exact hrc.drawn _ rfl) hok2 (by omega) (by omega) (by omega) (by omega) (by omega) hcd)))
        go_wp2
        go_roundg (ps.length - (i + 1))
        case measure => have := hi.out; omega
        case rel => exact ⟨i + 1, by have := hi.out; show _ = _; omega, rfl, hK2, by go_num, below_drewN hbc5 _⟩
    · have hie : i = ps.length := by have := hi.out; omega
      subst hie
      rw [Hend.out]
      go_wp2
      go_ret
      exact ⟨by simp, hbel.trans (hbw.mono hbel.size)⟩

theorem fn3_any (a1 a2 : Option Addr) (n1 c1 n2 c2 : Nat) (ps ms : List Pc) (w : World) (e1 : n1 = ps.length) (e2 : n2 = ms.length) (hl1 : n1 ≤ maxLen) (hl2 : n2 ≤ maxLen) (hr1 : Rd w a1 ps) (hr2 : Rd w a2 ms) (hok1 : ∀ i (h : i < ps.length), ps[i].ok) (hok2 : ∀ i (h : i < ms.length), ms[i].ok) :
    Calls Try.prog 3 #[.slice a1 n1 c1, .slice a2 n2 c2] w fun e w' => e = .returned (.bool true) ∧ Below w.heap.size w w' := by
  unfold maxLen at hl1 hl2
  by_cases hb : 4096 < n1 ∨ 4096 < n2
  · exact fn3_big a1 a2 n1 c1 n2 c2 w (by omega) (by omega) hb
  · subst e1 e2
    by_cases hA : Asc ps true ∧ Asc ms false
    · exact fn3_yes a1 a2 c1 c2 ps ms w hr1 hr2 hok1 hok2 (by omega) (by omega) hA.1 hA.2
    · exact fn3_no a1 a2 c1 c2 ps ms w hr1 hr2 (by omega) (by omega) hA
end Go.Proofs.Qxb6617406a
