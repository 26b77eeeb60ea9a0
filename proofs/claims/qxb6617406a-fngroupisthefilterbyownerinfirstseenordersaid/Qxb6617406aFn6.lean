import Derived.Test.Qxb6617406aToPieces
import Derived.Test.Qxb6617406aGroup
import Derived.Test.Qxb6617406aGroupLaw
import Derived.WalkSmall
namespace Go.Proofs.Qxb6617406a
open Go.ChangeShapes Go.WideShapes Go.ChangeAt Go.RowKit

theorem zzBytes18 (a : Option Addr) (n c : Nat) (w : World) :
    Calls Try.prog 18 #[.slice a n c] w fun e w' => e = .returned (.bool (decide (n ≤ 1048576))) ∧ w' = w := by
  by_cases h : n ≤ 1048576
  · go_enter Try.func18, Try.ntmps18
    go_wp2
    go_ret
    exact ⟨by simp [h], rfl⟩
  · have h' : (1048576 : Int) < (n : Int) := by omega
    go_enter Try.func18, Try.ntmps18
    go_wp2
    go_ret
    exact ⟨by simp [h], rfl⟩

theorem own_le (ps : List Pc) (o : Int) (k : Nat) (h : k ≤ ps.length) : (own ps o k).length ≤ k := by
  unfold own
  have h1 := List.length_filter_le (fun p : Pc => p.o == o) (ps.take k)
  simp at h1 ⊢
  omega

theorem rs_pos {ps : List Pc} {hs : List Hd} (g : Good ps ps.length hs) (i : Nat) (h : i < hs.length) : 0 < hs[i].rs.length := by
  have h1 := own_at ps hs[i].o (fi ps hs[i].o) (g.lt i h) (fi_at ps _ (g.lt i h))
  rw [g.rs i h]
  rcases Nat.eq_zero_or_pos (own ps hs[i].o ps.length).length with h0 | h0
  · rw [List.eq_nil_of_length_eq_zero h0] at h1; simp at h1
  · exact h0

theorem fn6_big (a : Option Addr) (n c : Nat) (w : World) (h : 4096 < n) :
    Calls Try.prog 6 #[.slice a n c] w fun e w' => e = .returned (.bool true) ∧ Below w.heap.size w w' := by
  by_cases h2 : n ≤ 1048576
  · have hd : decide (n ≤ 1048576) = true := by simpa using h2
    go_enter Try.func6, Try.ntmps6
    go_wp2_with fail
    refine (zzBytes18 a n c _).mono ?_
    rintro e w' ⟨rfl, rfl⟩
    rw [hd]
    go_wp2
    go_ret
    exact ⟨rfl, Below.refl _ _⟩
  · have hd : decide (n ≤ 1048576) = false := by simpa using h2
    go_enter Try.func6, Try.ntmps6
    go_wp2_with fail
    refine (zzBytes18 a n c _).mono ?_
    rintro e w' ⟨rfl, rfl⟩
    rw [hd]
    go_wp2
    go_ret
    exact ⟨rfl, Below.refl _ _⟩

theorem fn6_empty (a : Option Addr) (c : Nat) (w : World) :
    Calls Try.prog 6 #[.slice a 0 c] w fun e w' => e = .returned (.bool true) ∧ Below w.heap.size w w' := by
  have hd : decide (0 ≤ 1048576) = true := rfl
  go_enter Try.func6, Try.ntmps6
  go_wp2_with fail
  refine (zzBytes18 a 0 c _).mono ?_
  rintro e w' ⟨rfl, rfl⟩
  rw [hd]
  go_wp2_with fail
  refine (toPieces_any a c 0 [] _ rfl (.inl rfl) (by simp)).mono ?_
  rintro e w1 ⟨a', rfl, hb1, hr1⟩
  go_wp2_with fail
  refine (group_empty a' 0 _).mono ?_
  rintro e w2 ⟨rfl, hb2⟩
  go_wp2
  refine wp_loop_rounds 1 ?_
  rw [rounds_succ]
  go_wp2
  go_ret
  exact ⟨rfl, hb1.trans (hb2.mono hb1.size)⟩

set_option maxRecDepth 20000 in
set_option maxHeartbeats 1000000 in
theorem fn6_some (b o c : Nat) (ps : List Pc) (w : World) (hc : At3 w b o ps) (hok : ∀ i (h : i < ps.length), ps[i].ok) (hn : ps.length ≤ 4096) (hne : 0 < ps.length) (hb : b < w.heap.size) :
    Calls Try.prog 6 #[.slice (some ⟨b, o, none⟩) ps.length c] w fun e w' => e = .returned (.bool true) ∧ Below w.heap.size w w' := by
  have hd : decide (ps.length ≤ 1048576) = true := by simp; omega
  have hd2 : decide ((4096 : Int) < (ps.length : Int)) = false := by simp; omega
  go_enter Try.func6, Try.ntmps6
  go_wp2_with fail
  refine (zzBytes18 _ ps.length c _).mono ?_
  rintro e w' ⟨rfl, rfl⟩
  rw [hd]
  go_wp2_with fail
  refine (toPieces_any _ c ps.length ps _ rfl (.inr ⟨b, o, rfl, hb, hc⟩) hn).mono ?_
  rintro e w1 ⟨a', rfl, hb1, hr1⟩
  go_wp2_with fail
  refine (group_any a' ps.length ps.length ps _ rfl hr1 hok hn).mono ?_
  rintro e w2 ⟨ga, gc, rv, rfl, hb2, hold⟩
  have hc2 : At3 w2 b o ps := (hc.below hb1 hb).below hb2 (Nat.lt_of_lt_of_le hb hb1.size)
  have hgl := group_len ps ps.length (Nat.le_refl _)
  rw [List.take_length] at hgl
  have good := good_group ps
  have htot : Hid (tot (group ps) = ps.length) := tot_group ps
  generalize group ps = hs at *
  obtain ⟨g, hgs⟩ : ∃ g, 0 < hs.length → ga = some ⟨g, 0, none⟩ := by
    by_cases h0 : 0 < hs.length
    · obtain ⟨g, cap, hv, _⟩ := hold.row.form h0
      simp at hv
      exact ⟨g, fun _ => hv.1⟩
    · exact ⟨0, fun h => absurd h h0⟩
  have hpos : 0 < hs.length := by
    obtain ⟨i, hi, _⟩ := good.all 0 hne hne
    omega
  obtain rfl := hgs hpos
  have hgl2 := hold.row.lt g rfl
  go_wp2
  go_loopg [4, 5, 6] hs.length (fun gk cnt lf iv wr => ∃ i : Nat, Hid (i + gk = hs.length) ∧ iv = .int .i64 i ∧ cnt = .int .i64 (tot (hs.take i)) ∧ (∃ l : Int, lf = .int .i64 l ∧ -1 ≤ l ∧ (∀ (h : i < hs.length), l < fi ps hs[i].o)) ∧ Below w2.heap.size w2 wr)
  case atStart => exact ⟨0, Nat.zero_add _, rfl, rfl, ⟨-1, rfl, by omega, fun _ => by omega⟩, Below.refl _ _⟩
  case round =>
    obtain ⟨i, hi, rfl, rfl, ⟨l, rfl, hl1, hl2⟩, hbel⟩ := hrel
    by_cases hlt : i < hs.length
    · have hiI : (i : Int) < (hs.length : Int) := by omega
      have hi' : i < rv.length := by rw [hold.len]; exact hlt
      have hcg := hcells_get hs rv i hlt hi'
      have d0 : wr.cell? ⟨g, i * 2, none⟩ = some (.int .i64 hs[i].o) := by
        rw [hbel.cell (by exact hgl2.2), hold.row.cellAt (i * 2) (by omega)]; exact hcg.1
      have d1 : wr.cell? ⟨g, i * 2 + 1, none⟩ = some rv[i] := by
        rw [hbel.cell (by exact hgl2.2), hold.row.cellAt (i * 2 + 1) (by omega)]; exact hcg.2
      clear hcg
      have hF := good.lt i hlt
      have hl3 := hl2 hlt
      clear hl2
      have hrp := rs_pos good i hlt
      have hrs := good.rs i hlt
      have hei := hold.each i hlt hi'
      obtain ⟨q, cq, hq, hq1, hq2⟩ := hei.form hrp
      rw [hq] at d1 hei
      have hrng : ∀ j (h : j < hs[i].rs.length), wr.cell? ⟨q, j * 2, none⟩ = some (.int .u64 hs[i].rs[j].1) ∧ wr.cell? ⟨q, j * 2 + 1, none⟩ = some (.int .u64 hs[i].rs[j].2) := by
        intro j h
        have := rcells_get hs[i].rs j h
        rw [hbel.cell (by exact hq2), hbel.cell (by exact hq2), hei.cellAt (j * 2) (by omega), hei.cellAt (j * 2 + 1) (by omega)]
        exact this
      have hc3 : At3 wr b o ps := hc2.below hbel (Nat.lt_of_lt_of_le hb (Nat.le_trans hb1.size hb2.size))
      generalize hho : hs[i].o = ho at *
      generalize hhr : hs[i].rs = R at *
      have hFe : Hid (fi ps ho = fi ps ho) := rfl
      generalize hFF : fi ps ho = F at *
      have HF : Hid (fi ps ho = F) := hFF
      have Ho : Hid (hs[i].o = ho) := hho
      have Hr : Hid (hs[i].rs = R) := hhr
      have Hrs : Hid (R = own ps ho ps.length) := hrs
      clear hFF hho hhr hrs hFe hq
      go_wp2
      obtain ⟨W, hW⟩ : ∃ W, W = wr.alloc (.cells #[.int .i64 ho, .slice (some ⟨q, 0, none⟩) R.length cq] 45) := ⟨_, rfl⟩
      rw [← hW]
      have hcW : At3 W b o ps := by rw [hW]; exact hc3.of_block (Below.heap_alloc _ _ _ (by have := hb1.size; have := hb2.size; have := hbel.size; omega))
      have hrW : ∀ j (h : j < R.length), W.cell? ⟨q, j * 2, none⟩ = some (.int .u64 R[j].1) ∧ W.cell? ⟨q, j * 2 + 1, none⟩ = some (.int .u64 R[j].2) := by
        intro j h
        have := hrng j h
        rw [hW, World.cell?_of_block (Below.heap_alloc _ _ _ (by have := hbel.size; simp; omega)), World.cell?_of_block (Below.heap_alloc _ _ _ (by have := hbel.size; simp; omega))]
        exact this
      have hh0 : W.cell? ⟨wr.heap.size, 0, none⟩ = some (.int .i64 ho) := by rw [hW]; simp
      have hh1 : W.cell? ⟨wr.heap.size, 1, none⟩ = some (.slice (some ⟨q, 0, none⟩) R.length cq) := by rw [hW]; simp
      have hbW : Below w2.heap.size w2 W := by rw [hW]; exact hbel.alloc hbel.size _
      have HrW : Hid (∀ j (h : j < R.length), W.cell? ⟨q, j * 2, none⟩ = some (.int .u64 R[j].1) ∧ W.cell? ⟨q, j * 2 + 1, none⟩ = some (.int .u64 R[j].2)) := hrW
      clear hW hrng hc3 d0 d1 hrW
      go_loopg [8, 9] (F + 1) (fun gk2 f kv wi => ∃ k mm : Nat, Hid (k + gk2 = F + 1) ∧ k ≤ F ∧ f = .int .i64 (-1) ∧ kv = .int .i64 k ∧ wi = W.drewN mm)
      case atStart => exact ⟨0, 0, Nat.zero_add _, Nat.zero_le _, rfl, rfl, rfl⟩
      case round =>
        obtain ⟨k, mm, hkk, hkF, rfl, rfl, rfl⟩ := hrel
        have hkI : (k : Int) < (ps.length : Int) := by omega
        obtain ⟨_, _, c2⟩ := hcW k (by omega)
        by_cases hkF2 : k < F
        · have hno : ps[k].o ≠ ho := fi_before ps ho k (by rw [HF.out]; exact hkF2) (by omega)
          have hno2 : (ps[k].o == ho) = false := by simpa using hno
          go_wp2
          go_quiet (fail)
          go_wp2
          go_roundg (gk - 1)
          case measure => have := hkk.out; omega
          case rel => exact ⟨k + 1, _, by have := hkk.out; show _ = _; omega, by omega, rfl, by go_num, rfl⟩
        · have hkE : k = F := by omega
          subst hkE
          have hyes : ps[k].o = ho := by have := fi_at ps ho (by rw [HF.out]; omega); simp only [HF.out] at this; exact this
          rw [hyes] at c2
          have HY : Hid (ps[k].o = ho) := hyes
          clear hyes hkF2
          have hnl : decide ((k : Int) ≤ l) = false := by simp; omega
          go_wp2
          go_quiet (fail)
          go_wp2
          go_loopg [10, 11] (ps.length - k) (fun gk3 rr kv wi => ∃ j mm : Nat, Hid (j + gk3 = ps.length) ∧ k ≤ j ∧ j ≤ ps.length ∧ rr = .int .i64 (own ps ho j).length ∧ kv = .int .i64 j ∧ wi = W.drewN mm)
          case atStart => exact ⟨k, _, by show _ = _; omega, Nat.le_refl _, by omega, by rw [own_before ps ho k (by rw [HF.out]; exact Nat.le_refl _) (by omega)]; rfl, rfl, rfl⟩
          case round =>
            obtain ⟨j, mm2, hjj, hkj, hjn, rfl, rfl, rfl⟩ := hrel
            have hol := own_le ps ho j hjn
            by_cases hjl : j < ps.length
            · have hjI : (j : Int) < (ps.length : Int) := by omega
              obtain ⟨e0, e1, e2⟩ := hcW j hjl
              by_cases hyj : ps[j].o = ho
              · have hat := own_at ps ho j hjl hyj
                rw [← Hrs.out] at hat
                have hsn := own_succ_hit ps ho j hjl hyj
                have HS : Hid (own ps ho (j + 1) = own ps ho j ++ [(ps[j].s, ps[j].e)]) := hsn
                obtain ⟨hrl, hre⟩ := List.getElem?_eq_some_iff.1 hat
                obtain ⟨r0, r1⟩ := HrW.out _ hrl
                rw [hre] at r0 r1
                rw [hyj] at e2
                have hrI : ((own ps ho j).length : Int) < (R.length : Int) := by omega
                clear hsn hat hre
                have HY2 : Hid (ps[j].o = ho) := hyj
                clear hyj
                have hg1 : (ps[j].s != ps[j].s) = false := by simp
                have hg2 : (ps[j].e != ps[j].e) = false := by simp
                go_wp2
                go_quiet (fail)
                go_wp2
                go_quiet (fail)
                go_wp2
                go_roundg (gk - 1)
                case measure => have := hjj.out; omega
                case rel => exact ⟨j + 1, _, by have := hjj.out; show _ = _; omega, by omega, by omega, by rw [HS.out]; simp, by go_num, rfl⟩
              · have hsn := own_succ_miss ps ho j hjl hyj
                have HS : Hid (own ps ho (j + 1) = own ps ho j) := hsn
                have hno2 : (ps[j].o == ho) = false := by simpa using hyj
                have hno3 : (ps[j].o != ho) = true := by simpa using hyj
                clear hsn
                go_wp2
                go_quiet (fail)
                go_wp2
                go_roundg (gk - 1)
                case measure => have := hjj.out; omega
                case rel => exact ⟨j + 1, _, by have := hjj.out; show _ = _; omega, by omega, by omega, by rw [HS.out], by go_num, rfl⟩
            · have hje : j = ps.length := by omega
              subst hje
              have hlen : (own ps ho ps.length).length = R.length := by rw [← Hrs.out]
              have htb : tot (hs.take i) + R.length ≤ 4096 := by
                have h1 := tot_take hs i hlt
                have h2 := tot_le hs (i + 1)
                rw [htot.out] at h2
                rw [Hr.out] at h1
                omega
              go_wp2
              go_roundg (hs.length - (i + 1))
              case measure => have := hi.out; omega
              case rel =>
                have ht := tot_take hs i hlt
                rw [Hr.out] at ht
                refine ⟨i + 1, by have := hi.out; show _ = _; omega, by go_num, by rw [ht]; go_num, ⟨k, rfl, by omega, fun h => ?_⟩, below_drewN hbW _⟩
                have := good.up i (i + 1) hlt h (by omega)
                rw [Ho.out, HF.out] at this
                omega
    · have hie : i = hs.length := by have := hi.out; omega
      subst hie
      rw [List.take_length, htot.out]
      go_wp2
      go_ret
      exact ⟨by simp, hb1.trans ((hb2.mono hb1.size).trans (hbel.mono (Nat.le_trans hb1.size hb2.size)))⟩

theorem fn6_any (a : Option Addr) (n c : Nat) (ps : List Pc) (w : World) (hl : n = ps.length) (hr : Rd w a ps) (hok : ∀ i (h : i < ps.length), ps[i].ok) :
    Calls Try.prog 6 #[.slice a n c] w fun e w' => e = .returned (.bool true) ∧ Below w.heap.size w w' := by
  by_cases hb : 4096 < n
  · exact fn6_big a n c w hb
  · subst hl
    rcases hr with rfl | ⟨b, o, rfl, h2, h3⟩
    · exact fn6_empty a c w
    · by_cases h0 : 0 < ps.length
      · exact fn6_some b o c ps w h3 hok (by omega) h0 h2
      · have : ps = [] := List.eq_nil_of_length_eq_zero (by omega)
        subst this
        exact fn6_empty _ c w
end Go.Proofs.Qxb6617406a
