import Derived.Test.Qxb6617406aToPieces
import Derived.Test.Qxb6617406aGroup
import Derived.Test.Qxb6617406aCutLaw
import Derived.Test.Qxb6617406aHAt
import Derived.WalkSmall
import Derived.Deep.CutBlock
import Derived.Deep.DeepCutAuto
namespace Go.Proofs.Qxb6617406a
open Go.ChangeShapes Go.WideShapes Go.ChangeAt Go.RowKit

theorem zzBytes20 (a : Option Addr) (n c : Nat) (k : Int) (w : World) :
    Calls Try.prog 20 #[.slice a n c, .int .i64 k] w fun e w' => e = .returned (.bool (decide (n ≤ 1048576))) ∧ w' = w := by
  by_cases h : n ≤ 1048576
  · go_enter Try.func20, Try.ntmps20
    go_wp2
    go_ret
    exact ⟨by simp [h], rfl⟩
  · have h' : (1048576 : Int) < (n : Int) := by omega
    go_enter Try.func20, Try.ntmps20
    go_wp2
    go_ret
    exact ⟨by simp [h], rfl⟩

theorem cnt_le (ha hb : List Hd) (j : Nat) : cnt ha hb j ≤ hb.length := by
  unfold cnt
  have h1 := List.length_filter_le (fun h : Hd => !inA ha h.o) (hb.take j)
  simp at h1 ⊢
  omega

theorem draw_more (w : World) (a b c : Nat) : ∃ n, (w.drewN (a + b)).drewN c = w.drewN (a + n) := ⟨b + c, by rw [World.drewN_drewN, Nat.add_assoc]⟩

theorem RR.drawn {w : World} {a : Option Addr} {rs : List (Int × Int)} (h : RR w a rs) (w' : World) (e : w'.heap = w.heap) : RR w' a rs := by
  rcases h with h | ⟨g, h1, h2⟩
  · exact .inl h
  · exact .inr ⟨g, h1, h2.of_block (by rw [e])⟩

set_option maxRecDepth 20000 in
set_option maxHeartbeats 2000000 in
theorem fn7_some (b o c : Nat) (ps : List Pc) (cut : Nat) (w : World) (hc : At3 w b o ps) (hok : ∀ i (h : i < ps.length), ps[i].ok) (hn : ps.length ≤ 4096) (hne : 0 < ps.length) (hb : b < w.heap.size) (hcl : cut ≤ ps.length) :
    Calls Try.prog 7 #[.slice (some ⟨b, o, none⟩) ps.length c, .int .i64 cut] w fun e w' => e = .returned (.bool true) ∧ Below w.heap.size w w' := by
  have hd : decide (ps.length ≤ 1048576) = true := by simp; omega
  have hd2 : decide ((4096 : Int) < (ps.length : Int)) = false := by simp; omega
  have hd3 : decide ((cut : Int) < 0) = false := by simp
  have hd4 : decide (ps.length < cut) = false := by simp; omega
  have hcI : (cut : Int) ≤ (ps.length : Int) := by omega
  go_enter Try.func7, Try.ntmps7
  go_wp2_with fail
  refine (zzBytes20 _ ps.length c _ _).mono ?_
  rintro e w' ⟨rfl, rfl⟩
  rw [hd]
  go_wp2_with fail
  refine (toPieces_some b o c ps _ hc hn hb).mono ?_
  rintro e w1 ⟨rfl, hb1, hlt1, hat1⟩
  have hokA : ∀ i (h : i < (ps.take cut).length), (ps.take cut)[i].ok := fun i h => by rw [List.getElem_take]; exact hok i (by simp at h; omega)
  have hokB : ∀ i (h : i < (ps.drop cut).length), (ps.drop cut)[i].ok := fun i h => by rw [List.getElem_drop]; exact hok _ (by simp at h; omega)
  go_wp2_with fail
  refine (group_any _ ps.length ps.length ps _ rfl (.inr ⟨_, 0, rfl, hlt1, hat1⟩) hok hn).mono ?_
  rintro e w2 ⟨gaS, gcS, rvS, rfl, hb2, holdS⟩
  have hat2 := hat1.below hb2 hlt1
  have hlt2 := Nat.lt_of_lt_of_le hlt1 hb2.size
  go_wp2_with fail
  refine (group_any _ cut ps.length (ps.take cut) _ (by simp; omega) (Rd.take hat2 hlt2 hcl) hokA (by simp; omega)).mono ?_
  rintro e w3 ⟨gaA, gcA, rvA, rfl, hb3, holdA⟩
  have hat3 := hat2.below hb3 hlt2
  have hlt3 := Nat.lt_of_lt_of_le hlt2 hb3.size
  go_upto_region 10 with fail
  go_cut [0, 5, 8] (fun s0 s5 vb wc => s0 = .slice (some ⟨b, o, none⟩) ps.length c ∧ s5 = .slice (some ⟨w'.heap.size, 0, none⟩) ps.length ps.length ∧ ∃ gaB gcB rvB, vb = .slice gaB (group (ps.drop cut)).length gcB ∧ Below w3.heap.size w3 wc ∧ Hold wc (w3.heap.size + 1) (.slice gaB (group (ps.drop cut)).length gcB) (group (ps.drop cut)) rvB)
  case first =>
    go_wp2_with fail
    · refine (group_any _ 0 0 (ps.drop cut) _ (by simp; omega) (.inl (List.eq_nil_of_length_eq_zero (by simp; omega))) hokB (by simp; omega)).mono ?_
      rintro e w4 ⟨gaB, gcB, rvB, rfl, hb4, holdB⟩
      have hcn : ps.length = cut := by omega
      have Hcn : Hid (ps.length = cut) := hcn
      clear hcn
      go_wp2
      go_meet
      case rel => exact ⟨by rw [Hcn.out], by rw [Hcn.out], gaB, gcB, rvB, rfl, hb4, holdB⟩
    · refine (group_any _ (ps.length - cut) (ps.length - cut) (ps.drop cut) _ (by simp) (.inr ⟨_, _, rfl, hlt3, hat3.drop⟩) hokB (by simp; omega)).mono ?_
      rintro e w4 ⟨gaB, gcB, rvB, rfl, hb4, holdB⟩
      go_wp2
      go_meet
      case rel => exact ⟨rfl, rfl, gaB, gcB, rvB, rfl, hb4, holdB⟩
  case rest =>
    obtain ⟨rfl, rfl, gaB, gcB, rvB, rfl, hb4, holdB⟩ := hcut
    have cok := cut_ok ps cut
    have htotS : Hid (tot (group ps) = ps.length) := tot_group ps
    have htotA : Hid (tot (group (ps.take cut)) = cut) := by show _ = _; rw [tot_group]; simp; omega
    have htotB : Hid (tot (group (ps.drop cut)) = ps.length - cut) := by show _ = _; rw [tot_group]; simp
    have hlS : Hid (group (ps.take ps.length) = group ps) := by show _ = _; rw [List.take_length]
    have holdS2 := (holdS.below hb3).below hb4
    have holdA2 := holdA.below hb4
    have hcW : At3 wc b o ps := by
      have h1 := (hc.below hb1 hb).below hb2 (Nat.lt_of_lt_of_le hb hb1.size)
      have h2 := h1.below hb3 (Nat.lt_of_lt_of_le hb (Nat.le_trans hb1.size hb2.size))
      exact h2.below hb4 (Nat.lt_of_lt_of_le hb (Nat.le_trans hb1.size (Nat.le_trans hb2.size hb3.size)))
    obtain ⟨gS, qS, cS, hgS, hS⟩ := hat_of_hold holdS2 (rs_pos (good_group ps))
    obtain ⟨gA, qA, cA, hgA, hA⟩ := hat_of_hold holdA2 (rs_pos (good_group (ps.take cut)))
    obtain ⟨gB, qB, cB, hgB, hB⟩ := hat_of_hold holdB (rs_pos (good_group (ps.drop cut)))
    have hbel : Below w'.heap.size w' wc := hb1.trans ((hb2.mono hb1.size).trans ((hb3.mono (Nat.le_trans hb1.size hb2.size)).trans (hb4.mono (Nat.le_trans hb1.size (Nat.le_trans hb2.size hb3.size)))))
    have hllS := group_len ps ps.length (Nat.le_refl _)
    rw [List.take_length] at hllS
    have hposS : 0 < (group ps).length := by
      obtain ⟨i, hi, _⟩ := (good_group ps).all 0 hne hne
      omega
    obtain rfl := hgS hposS
    have hllB := group_len (ps.drop cut) (ps.drop cut).length (Nat.le_refl _)
    rw [List.take_length] at hllB
    simp at hllB
    clear hgS holdS holdA holdB holdS2 holdA2 hat1 hat2 hat3 hokA hokB hlt1 hlt2 hlt3 hb1 hb2 hb3 hb4
    have HlS : Hid (∀ hs, hs = group ps → hs.length = (group (ps.take ps.length)).length) := by
      intro hs e
      rw [e, List.take_length]
    generalize hhs : group ps = hs at *
    have Hhs : Hid (group ps = hs) := hhs
    clear hhs
    generalize group (ps.take cut) = ha at *
    generalize group (ps.drop cut) = hb at *
    have hlle := cok.le
    have hd5 : decide (hs.length < ha.length) = false := by simp; omega
    go_upto_block 0 with fail
    go_cut [9] (fun _ wr => ∃ m : Nat, wr = wc.drewN m)
    case first =>
      go_wp2
      go_loopg [9] ha.length (fun gk iv wr => ∃ i m : Nat, Hid (i + gk = ha.length) ∧ iv = .int .i64 i ∧ wr = wc.drewN m)
      case atStart => exact ⟨0, 0, Nat.zero_add _, rfl, rfl⟩
      case round =>
        obtain ⟨i, m, hi, rfl, rfl⟩ := hrel
        by_cases hlt : i < ha.length
        · obtain rfl := hgA (by omega)
          have hlt2 : i < hs.length := by omega
          obtain ⟨a0, a1, a2⟩ := hA i hlt
          obtain ⟨s0, s1, s2⟩ := hS i hlt2
          rw [cok.fst i hlt hlt2] at s0
          have hiI : (i : Int) < (ha.length : Int) := by omega
          have hiJ : (i : Int) < (hs.length : Int) := by omega
          have hg1 : (ha[i].o != ha[i].o) = false := by simp
          go_wp2
          go_quiet (fail)
          go_upto_block 2 with fail
          go_cut [10] (fun tl wr => ∃ (ta : Option Addr) (tc : Nat) (T : List (Int × Int)) (m2 : Nat), tl = .slice ta T.length tc ∧ RR wc ta T ∧ Hid (hs[i].rs = ha[i].rs ++ T) ∧ wr = wc.drewN m2)
          case first =>
            go_wp2
            go_loopg [10, 11] hb.length (fun gk tl jv wr => ∃ j m : Nat, Hid (j + gk = hb.length) ∧ tl = .slice none 0 0 ∧ jv = .int .i64 j ∧ wr = wc.drewN m ∧ Hid (∀ k (hk : k < hb.length), k < j → hb[k].o ≠ ha[i].o))
            case atStart => exact ⟨0, m + nq, Nat.zero_add _, rfl, rfl, by rw [World.drewN_drewN], fun k _ h => absurd h (by omega)⟩
            case round =>
              obtain ⟨j, m2, hj, rfl, rfl, rfl, hno⟩ := hrel
              by_cases hjl : j < hb.length
              · obtain rfl := hgB (by omega)
                obtain ⟨b0, b1, b2⟩ := hB j hjl
                have hjI : (j : Int) < (hb.length : Int) := by omega
                by_cases heq : hb[j].o = ha[i].o
                · have Heq : Hid (hb[j].o = ha[i].o) := heq
                  rw [heq] at b0
                  clear heq
                  go_wp2
                  go_quiet (fail)
                  go_wp2
                  go_meet
                  case rel => exact ⟨_, _, hb[j].rs, _, rfl, .inr ⟨_, rfl, b2⟩, cok.hit i j hlt hlt2 hjl Heq.out, rfl⟩
                · have hne2 : (hb[j].o == ha[i].o) = false := by simpa using heq
                  go_wp2
                  go_quiet (fail)
                  go_wp2
                  go_roundg (gk - 1)
                  case measure => have := hj.out; omega
                  case rel => exact ⟨j + 1, _, by have := hj.out; show _ = _; omega, rfl, by go_num, rfl, fun k hk h => by
                    by_cases e : k = j
                    · subst e; exact heq
                    · exact hno.out k hk (by omega)⟩
              · go_wp2
                go_meet
                case rel => exact ⟨_, _, [], _, rfl, .inl rfl, cok.miss i hlt hlt2 (fun k hk => hno.out k hk (by omega)), rfl⟩
          case rest =>
            obtain ⟨ta, tc, T, m2, rfl, hT, hcat, rfl⟩ := hcut
            have hsl := rs_le hs i hlt2
            rw [htotS.out] at hsl
            go_wp2
            go_quiet ((go_at_call 21; refine (concat_any (qS i) (cS i) (qA i) (cA i) _ _ _ tc ta hs[i].rs ha[i].rs T _ rfl rfl rfl (by exact s2.of_block rfl) (by exact a2.of_block rfl) (by exact hT.drawn _ rfl) hcat.out (by omega)).mono ?_; rintro e w'' ⟨rfl, md, rfl⟩; exact ⟨rfl, draw_more _ _ _ _⟩))
            go_wp2
            go_roundg (ha.length - (i + 1))
            case measure => have := hi.out; omega
            case rel => exact ⟨i + 1, _, by have := hi.out; show _ = _; omega, by go_num, rfl⟩
        · go_wp2
          go_meet
          case rel => exact ⟨_, rfl⟩
    case rest =>
      obtain ⟨m0, rfl⟩ := hcut
      go_upto_block 4 with fail
      go_cut [12] (fun idx wr => idx = .int .i64 hs.length ∧ ∃ m : Nat, wr = wc.drewN m)
      case first =>
        go_wp2
        go_loopg [12, 13] hb.length (fun gk idx jv wr => ∃ j m : Nat, Hid (j + gk = hb.length) ∧ idx = .int .i64 (ha.length + cnt ha hb j : Nat) ∧ jv = .int .i64 j ∧ wr = wc.drewN m)
        case atStart => exact ⟨0, m0, Nat.zero_add _, by rw [cnt_zero]; rfl, rfl, rfl⟩
        case round =>
          obtain ⟨j, m, hj, rfl, rfl, rfl⟩ := hrel
          by_cases hjl : j < hb.length
          · obtain rfl := hgB (by omega)
            obtain ⟨b0, b1, b2⟩ := hB j hjl
            have hjI : (j : Int) < (hb.length : Int) := by omega
            have hcn := cnt_le ha hb j
            go_upto_block 6 with fail
            go_cut [14] (fun fl wr => fl = .bool (inA ha hb[j].o) ∧ ∃ m : Nat, wr = wc.drewN m)
            case first =>
              go_wp2
              go_loopg [14, 15] ha.length (fun gk fl iv wr => ∃ i m : Nat, Hid (i + gk = ha.length) ∧ fl = .bool (inA (ha.take i) hb[j].o) ∧ iv = .int .i64 i ∧ wr = wc.drewN m)
              case atStart => exact ⟨0, m, Nat.zero_add _, rfl, rfl, rfl⟩
              case round =>
                obtain ⟨i, m1, hi, rfl, rfl, rfl⟩ := hrel
                by_cases hil : i < ha.length
                · obtain rfl := hgA (by omega)
                  obtain ⟨a0, a1, a2⟩ := hA i hil
                  have hiI : (i : Int) < (ha.length : Int) := by omega
                  have Hs : Hid (inA (ha.take (i + 1)) hb[j].o = (inA (ha.take i) hb[j].o || (ha[i].o == hb[j].o))) := inA_take_succ ha _ i hil
                  by_cases heq : ha[i].o = hb[j].o
                  · have Heq : Hid (ha[i].o = hb[j].o) := heq
                    rw [heq] at a0
                    clear heq
                    go_wp2
                    go_quiet (fail)
                    go_wp2
                    go_roundg (ha.length - (i + 1))
                    case measure => have := hi.out; omega
                    case rel => exact ⟨i + 1, _, by have := hi.out; show _ = _; omega, by rw [Hs.out, Heq.out]; simp, by go_num, rfl⟩
                  · have hne2 : (ha[i].o == hb[j].o) = false := by simpa using heq
                    go_wp2
                    go_quiet (fail)
                    go_wp2
                    go_roundg (ha.length - (i + 1))
                    case measure => have := hi.out; omega
                    case rel => exact ⟨i + 1, _, by have := hi.out; show _ = _; omega, by rw [Hs.out, hne2]; simp, by go_num, rfl⟩
                · have hie : i = ha.length := by have := hi.out; omega
                  subst hie
                  rw [List.take_length]
                  go_wp2
                  go_meet
                  case rel => exact ⟨rfl, _, rfl⟩
            case rest =>
              obtain ⟨rfl, m1, rfl⟩ := hcut
              cases hin : inA ha hb[j].o with
              | true =>
                have Hc : Hid (cnt ha hb (j + 1) = cnt ha hb j) := cnt_in ha hb j hjl hin
                go_wp2
                go_roundg (hb.length - (j + 1))
                case measure => have := hj.out; omega
                case rel => exact ⟨j + 1, _, by have := hj.out; show _ = _; omega, by rw [Hc.out]; go_num, by go_num, rfl⟩
              | false =>
                have Hc : Hid (cnt ha hb (j + 1) = cnt ha hb j + 1) := cnt_out ha hb j hjl hin
                obtain ⟨hx, hxo, hxr⟩ := cok.new j hjl hin
                obtain ⟨s0, s1, s2⟩ := hS _ hx
                rw [hxo] at s0
                have Hxr : Hid (hs[ha.length + cnt ha hb j].rs = hb[j].rs ++ []) := hxr
                have hsl := rs_le hs _ hx
                rw [htotS.out] at hsl
                clear hxo hxr
                generalize hxx : ha.length + cnt ha hb j = x at *
                have Hx : Hid (ha.length + cnt ha hb j = x) := hxx
                clear hxx
                have hxI : (x : Int) < (hs.length : Int) := by omega
                have hg1 : (hb[j].o != hb[j].o) = false := by simp
                have hd6 : decide ((hs.length : Int) ≤ (x : Int)) = false := by simp; omega
                go_wp2
                go_quiet ((go_at_call 21; refine (concat_any (qS x) (cS x) (qB j) (cB j) _ _ _ 0 none hs[x].rs hb[j].rs [] _ rfl rfl rfl (by exact s2.of_block rfl) (by exact b2.of_block rfl) (.inl rfl) Hxr.out (by omega)).mono ?_; rintro e w'' ⟨rfl, md, rfl⟩; exact ⟨rfl, draw_more _ _ _ _⟩))
                go_wp2
                go_roundg (hb.length - (j + 1))
                case measure => have := hj.out; omega
                case rel => exact ⟨j + 1, _, by have := hj.out; show _ = _; omega, by rw [Hc.out, ← Nat.add_assoc, Hx.out]; go_num, by go_num, rfl⟩
          · have hje : j = hb.length := by have := hj.out; omega
            subst hje
            rw [cok.all]
            go_wp2
            go_meet
            case rel => exact ⟨rfl, _, rfl⟩
      case rest =>
        obtain ⟨rfl, m1, rfl⟩ := hcut
        go_upto_block 8 with fail
        go_cut [16] (fun ds wr => ds = .int .i64 hs.length ∧ ∃ m : Nat, wr = wc.drewN m)
        case first =>
          go_wp2
          go_loopg [16, 17] ps.length (fun gk ds kv wr => ∃ k m : Nat, Hid (k + gk = ps.length) ∧ ds = .int .i64 (group (ps.take k)).length ∧ kv = .int .i64 k ∧ wr = wc.drewN m)
          case atStart => exact ⟨0, m1, Nat.zero_add _, rfl, rfl, rfl⟩
          case round =>
            obtain ⟨k, m, hk, rfl, rfl, rfl⟩ := hrel
            by_cases hkl : k < ps.length
            · have hgk := group_len ps k (by omega)
              obtain ⟨_, _, c2⟩ := hcW k hkl
              have hkI : (k : Int) < (ps.length : Int) := by omega
              go_upto_block 10 with fail
              go_cut [18] (fun sn wr => ∃ (bb : Bool) (m2 : Nat), sn = .bool bb ∧ wr = wc.drewN m2 ∧ Hid ((group (ps.take (k + 1))).length = (group (ps.take k)).length + if bb = true then 0 else 1))
              case first =>
                go_wp2
                go_loopg [18, 19] k (fun gk sn lv wr => ∃ l m : Nat, Hid (l + gk = k) ∧ sn = .bool false ∧ lv = .int .i64 l ∧ wr = wc.drewN m ∧ Hid (∀ i (hi : i < ps.length), i < l → ps[i].o ≠ ps[k].o))
                case atStart => exact ⟨0, m, Nat.zero_add _, rfl, rfl, rfl, fun i _ h => absurd h (by omega)⟩
                case round =>
                  obtain ⟨l, m2, hl, rfl, rfl, rfl, hno⟩ := hrel
                  by_cases hll : l < k
                  · obtain ⟨_, _, d2⟩ := hcW l (by omega)
                    have hlI : (l : Int) < (ps.length : Int) := by omega
                    by_cases heq : ps[l].o = ps[k].o
                    · have Heq : Hid (ps[l].o = ps[k].o) := heq
                      rw [heq] at d2
                      clear heq
                      go_wp2
                      go_quiet (fail)
                      go_wp2
                      go_meet
                      case rel => exact ⟨true, m2 + nq, rfl, by rw [World.drewN_drewN], group_len_seen ps k l hkl hll Heq.out⟩
                    · have hne2 : (ps[l].o == ps[k].o) = false := by simpa using heq
                      go_wp2
                      go_quiet (fail)
                      go_wp2
                      go_roundg (k - (l + 1))
                      case measure => have := hl.out; omega
                      case rel => exact ⟨l + 1, _, by have := hl.out; show _ = _; omega, rfl, by go_num, rfl, fun i hi h => by
                        by_cases e : i = l
                        · subst e; exact heq
                        · exact hno.out i hi (by omega)⟩
                  · go_wp2
                    go_meet
                    case rel => exact ⟨false, _, rfl, rfl, group_len_new ps k hkl (fun i hi => hno.out i (by omega) (by omega))⟩
              case rest =>
                obtain ⟨bb, m2, rfl, rfl, hgl⟩ := hcut
                cases bb with
                | true =>
                  go_wp2
                  go_roundg (ps.length - (k + 1))
                  case measure => have := hk.out; omega
                  case rel => exact ⟨k + 1, _, by have := hk.out; show _ = _; omega, by rw [hgl.out]; rfl, by go_num, rfl⟩
                | false =>
                  go_wp2
                  go_roundg (ps.length - (k + 1))
                  case measure => have := hk.out; omega
                  case rel => exact ⟨k + 1, _, by have := hk.out; show _ = _; omega, by rw [hgl.out]; rfl, by go_num, rfl⟩
            · have hke : k = ps.length := by have := hk.out; omega
              subst hke
              rw [List.take_length, Hhs.out]
              go_wp2
              go_meet
              case rel => exact ⟨rfl, _, rfl⟩
        case rest =>
          obtain ⟨rfl, m2, rfl⟩ := hcut
          go_wp2
          go_loopg [20, 21] hs.length (fun gk tt iv wr => ∃ i m : Nat, Hid (i + gk = hs.length) ∧ tt = .int .i64 (tot (hs.take i)) ∧ iv = .int .i64 i ∧ wr = wc.drewN m)
          case atStart => exact ⟨0, m2, Nat.zero_add _, rfl, rfl, rfl⟩
          case round =>
            obtain ⟨i, m, hi, rfl, rfl, rfl⟩ := hrel
            by_cases hil : i < hs.length
            · obtain ⟨s0, s1, s2⟩ := hS i hil
              have hiI : (i : Int) < (hs.length : Int) := by omega
              have Ht : Hid (tot (hs.take (i + 1)) = tot (hs.take i) + hs[i].rs.length) := tot_take hs i hil
              have htb : tot (hs.take i) + hs[i].rs.length ≤ 4096 := by
                have h1 := Ht.out
                have h2 := tot_le hs (i + 1)
                rw [htotS.out] at h2
                omega
              go_wp2
              go_roundg (hs.length - (i + 1))
              case measure => have := hi.out; omega
              case rel => exact ⟨i + 1, _, by have := hi.out; show _ = _; omega, by rw [Ht.out]; go_num, by go_num, rfl⟩
            · have hie : i = hs.length := by have := hi.out; omega
              subst hie
              rw [List.take_length, htotS.out]
              go_wp2
              go_ret
              exact ⟨by simp, below_drewN hbel _⟩

set_option maxRecDepth 20000 in
theorem fn7_big (a : Option Addr) (n c : Nat) (k : Int) (w : World) (h : 4096 < n) :
    Calls Try.prog 7 #[.slice a n c, .int .i64 k] w fun e w' => e = .returned (.bool true) ∧ Below w.heap.size w w' := by
  by_cases h2 : n ≤ 1048576
  · have hd : decide (n ≤ 1048576) = true := by simpa using h2
    go_enter Try.func7, Try.ntmps7
    go_wp2_with fail
    refine (zzBytes20 a n c k _).mono ?_
    rintro e w' ⟨rfl, rfl⟩
    rw [hd]
    go_wp2
    go_ret
    exact ⟨rfl, Below.refl _ _⟩
  · have hd : decide (n ≤ 1048576) = false := by simpa using h2
    go_enter Try.func7, Try.ntmps7
    go_wp2_with fail
    refine (zzBytes20 a n c k _).mono ?_
    rintro e w' ⟨rfl, rfl⟩
    rw [hd]
    go_wp2
    go_ret
    exact ⟨rfl, Below.refl _ _⟩

set_option maxRecDepth 20000 in
theorem fn7_out (a : Option Addr) (n c : Nat) (k : Int) (w : World) (h : n ≤ 4096) (hk : k < 0 ∨ (n : Int) < k) :
    Calls Try.prog 7 #[.slice a n c, .int .i64 k] w fun e w' => e = .returned (.bool true) ∧ Below w.heap.size w w' := by
  have hd : decide (n ≤ 1048576) = true := by simp; omega
  have hd2 : decide ((4096 : Int) < (n : Int)) = false := by simp; omega
  by_cases h0 : k < 0
  · go_enter Try.func7, Try.ntmps7
    go_wp2_with fail
    refine (zzBytes20 a n c k _).mono ?_
    rintro e w' ⟨rfl, rfl⟩
    rw [hd]
    go_wp2
    go_ret
    exact ⟨rfl, Below.refl _ _⟩
  · have h1 : (n : Int) < k := by omega
    have hd3 : decide (k < 0) = false := by simp; omega
    go_enter Try.func7, Try.ntmps7
    go_wp2_with fail
    refine (zzBytes20 a n c k _).mono ?_
    rintro e w' ⟨rfl, rfl⟩
    rw [hd]
    go_wp2
    go_ret
    exact ⟨rfl, Below.refl _ _⟩

set_option maxRecDepth 20000 in
set_option maxHeartbeats 2000000 in
theorem fn7_empty (a : Option Addr) (c : Nat) (w : World) :
    Calls Try.prog 7 #[.slice a 0 c, .int .i64 0] w fun e w' => e = .returned (.bool true) ∧ Below w.heap.size w w' := by
  have hd : decide (0 ≤ 1048576) = true := rfl
  go_enter Try.func7, Try.ntmps7
  go_wp2_with fail
  refine (zzBytes20 a 0 c 0 _).mono ?_
  rintro e w' ⟨rfl, rfl⟩
  rw [hd]
  go_wp2_with fail
  refine (toPieces_any a c 0 [] _ rfl (.inl rfl) (by simp)).mono ?_
  rintro e w1 ⟨a', rfl, hb1, hr1⟩
  go_wp2_with fail
  refine (group_empty a' 0 _).mono ?_
  rintro e w2 ⟨rfl, hb2⟩
  cases a' with
  | none =>
    go_wp2_with fail
    refine (group_empty none 0 _).mono ?_
    rintro e w3 ⟨rfl, hb3⟩
    go_wp2_with fail
    refine (group_empty none 0 _).mono ?_
    rintro e w4 ⟨rfl, hb4⟩
    go_wp2
    refine wp_loop_rounds 1 ?_
    rw [rounds_succ]
    go_wp2
    refine wp_loop_rounds 1 ?_
    rw [rounds_succ]
    go_wp2
    refine wp_loop_rounds 1 ?_
    rw [rounds_succ]
    go_wp2
    refine wp_loop_rounds 1 ?_
    rw [rounds_succ]
    go_wp2
    go_ret
    exact ⟨rfl, hb1.trans ((hb2.mono hb1.size).trans ((hb3.mono (Nat.le_trans hb1.size hb2.size)).trans (hb4.mono (Nat.le_trans hb1.size (Nat.le_trans hb2.size hb3.size)))))⟩
  | some x =>
    go_wp2_with fail
    refine (group_empty (some x) 0 _).mono ?_
    rintro e w3 ⟨rfl, hb3⟩
    go_wp2_with fail
    refine (group_empty (some x) 0 _).mono ?_
    rintro e w4 ⟨rfl, hb4⟩
    go_wp2
    refine wp_loop_rounds 1 ?_
    rw [rounds_succ]
    go_wp2
    refine wp_loop_rounds 1 ?_
    rw [rounds_succ]
    go_wp2
    refine wp_loop_rounds 1 ?_
    rw [rounds_succ]
    go_wp2
    refine wp_loop_rounds 1 ?_
    rw [rounds_succ]
    go_wp2
    go_ret
    exact ⟨rfl, hb1.trans ((hb2.mono hb1.size).trans ((hb3.mono (Nat.le_trans hb1.size hb2.size)).trans (hb4.mono (Nat.le_trans hb1.size (Nat.le_trans hb2.size hb3.size)))))⟩

theorem fn7_any (a : Option Addr) (n c : Nat) (k : Int) (ps : List Pc) (w : World) (hl : n = ps.length) (hr : Rd w a ps) (hok : ∀ i (h : i < ps.length), ps[i].ok) :
    Calls Try.prog 7 #[.slice a n c, .int .i64 k] w fun e w' => e = .returned (.bool true) ∧ Below w.heap.size w w' := by
  by_cases hb : 4096 < n
  · exact fn7_big a n c k w hb
  · by_cases hk : k < 0 ∨ (n : Int) < k
    · exact fn7_out a n c k w (by omega) hk
    · subst hl
      obtain ⟨cut, rfl⟩ := Int.eq_ofNat_of_zero_le (show 0 ≤ k by omega)
      have hcl : cut ≤ ps.length := by omega
      by_cases h0 : 0 < ps.length
      · rcases hr with rfl | ⟨b, o, rfl, h2, h3⟩
        · simp at h0
        · exact fn7_some b o c ps cut w h3 hok (by omega) h0 h2 hcl
      · have e : ps = [] := List.eq_nil_of_length_eq_zero (by omega)
        subst e
        have e2 : cut = 0 := by simpa using hcl
        subst e2
        exact fn7_empty a c w
end Go.Proofs.Qxb6617406a
