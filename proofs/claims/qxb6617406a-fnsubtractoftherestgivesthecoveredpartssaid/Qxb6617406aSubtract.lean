import Derived.Test.Qxb6617406aSub
import Derived.Deep.RegionLaw
import Derived.Deep.DrawnRows
import Derived.Deep.CutBlock
import Derived.Deep.DeepCutAuto
import Derived.Deep.LoopGhost
import Derived.WalkSmall
namespace Go.Proofs.Qxb6617406a
open Go.ChangeShapes Go.WideShapes Go.ChangeAt Go.RowKit
attribute [local go_sem ↓] Go.wp_at_zero Go.wp_at_succ

def endP (p : Pc) (a : Int) : List Pc := if a < p.e then [⟨a, p.e, p.o⟩] else []

theorem drop_while_go (ms : List Pc) (s : Int) (j : Nat) (h : j < ms.length) (e : ms[j].e ≤ s) : (ms.drop j).dropWhile (fun m => decide (m.e ≤ s)) = (ms.drop (j + 1)).dropWhile (fun m => decide (m.e ≤ s)) := by
  rw [List.drop_eq_getElem_cons h, List.dropWhile_cons, if_pos (by simpa using e)]
theorem drop_while_stop (ms : List Pc) (s : Int) (j : Nat) (h : j < ms.length) (e : ¬ ms[j].e ≤ s) : (ms.drop j).dropWhile (fun m => decide (m.e ≤ s)) = ms.drop j := by
  rw [List.drop_eq_getElem_cons h, List.dropWhile_cons, if_neg (by simpa using e)]
theorem drop_while_end (ms : List Pc) (s : Int) (j : Nat) (h : ¬ j < ms.length) : (ms.drop j).dropWhile (fun m => decide (m.e ≤ s)) = ms.drop j := by
  rw [List.drop_eq_nil_of_le (by omega)]; rfl

theorem cutP_go (p : Pc) (a : Int) (ms : List Pc) (k : Nat) (h : k < ms.length) (e : ms[k].s < p.e) : cutP p a (ms.drop k) = (if a < ms[k].s then [⟨a, ms[k].s, p.o⟩] else []) ++ cutP p ms[k].e (ms.drop (k + 1)) := by
  rw [List.drop_eq_getElem_cons h, cutP, if_pos e]
theorem cutP_stop (p : Pc) (a : Int) (ms : List Pc) (k : Nat) (h : k < ms.length) (e : ¬ ms[k].s < p.e) : cutP p a (ms.drop k) = endP p a := by
  rw [List.drop_eq_getElem_cons h, cutP, if_neg e]; rfl
theorem cutP_end (p : Pc) (a : Int) (ms : List Pc) (k : Nat) (h : ¬ k < ms.length) : cutP p a (ms.drop k) = endP p a := by
  rw [List.drop_eq_nil_of_le (by omega), cutP]; rfl

set_option maxRecDepth 20000 in
set_option maxHeartbeats 2000000 in
theorem sub_walk (a1 a2 : Option Addr) (b1 o1 b2 o2 c1 c2 : Nat) (ps ms : List Pc) (w : World) (h1 : 0 < ps.length → a1 = some ⟨b1, o1, none⟩) (h2 : 0 < ms.length → a2 = some ⟨b2, o2, none⟩)
    (hp : At3 w b1 o1 ps) (hm : At3 w b2 o2 ms) (hb1 : 0 < ps.length → b1 < w.heap.size) (hb2 : 0 < ms.length → b2 < w.heap.size) (hn1 : ps.length ≤ 20000) (hn2 : ms.length ≤ 20000) (hB : (subt ps ms).length ≤ 500000000) :
    Calls Try.prog 10 #[.slice a1 ps.length c1, .slice a2 ms.length c2] w fun e w' => ∃ ga gc, e = .returned (.slice ga (subt ps ms).length gc) ∧ Below w.heap.size w w' ∧ Rd w' ga (subt ps ms) := by
  obtain ⟨i0, hi0, hz0, hz1, hz2⟩ := info_parts Try.info34
  go_enter Try.func10, Try.ntmps10
  go_wp2
  go_loopg [5, 6, 13] ps.length (fun gk v jv iv wr => ∃ (i j : Nat) (O : List Pc) (ga : Option Addr) (gc : Nat), Hid (i + gk = ps.length) ∧ iv = .int .i64 i ∧ j ≤ ms.length ∧ jv = .int .i64 j ∧ v = .slice ga O.length gc ∧ wr.ownsRow w.heap.size 34 3 (.slice ga O.length gc) O.length (pcells O) ∧ Below w.heap.size w wr ∧ Hid (O ++ subt (ps.drop i) (ms.drop j) = subt ps ms))
  case atStart => exact ⟨0, 0, [], none, 0, Nat.zero_add _, rfl, Nat.zero_le _, rfl, rfl, World.ownsRow_nil _ _ _ _, Below.refl _ _, rfl⟩
  case round =>
    obtain ⟨i, j, O, ga, gc, hi, rfl, hjl, rfl, rfl, hown, hbel, hO⟩ := hrel
    by_cases hlt : i < ps.length
    · obtain rfl := h1 (by omega)
      have hb1' := hb1 (by omega)
      obtain ⟨d0, d1, d2⟩ := hp i hlt
      rw [← hbel.cell (p := ⟨b1, o1 + i * 3, none⟩) hb1'] at d0
      rw [← hbel.cell (p := ⟨b1, o1 + i * 3 + 1, none⟩) hb1'] at d1
      rw [← hbel.cell (p := ⟨b1, o1 + i * 3 + 2, none⟩) hb1'] at d2
      have hsub : subt (ps.drop i) (ms.drop j) = cutP ps[i] ps[i].s ((ms.drop j).dropWhile (fun m => decide (m.e ≤ ps[i].s))) ++ subt (ps.drop (i + 1)) ((ms.drop j).dropWhile (fun m => decide (m.e ≤ ps[i].s))) := by
        rw [List.drop_eq_getElem_cons hlt, subt]
      have hO2 := hO.out
      rw [hsub] at hO2
      generalize ps[i] = p at *
      have HO : Hid (O ++ (cutP p p.s ((ms.drop j).dropWhile (fun m => decide (m.e ≤ p.s))) ++ subt (ps.drop (i + 1)) ((ms.drop j).dropWhile (fun m => decide (m.e ≤ p.s)))) = subt ps ms) := hO2
      clear hO hO2 hsub
      have hiI : (i : Int) < (ps.length : Int) := by omega
      go_upto_block 2 with fail
      obtain ⟨W, hW⟩ : ∃ W, W = wr.alloc (.cells #[.int .u64 p.s, .int .u64 p.e, .int .i64 p.o] 34) := ⟨_, rfl⟩
      rw [← hW]
      have hout : Out w W wr.heap.size p (.slice ga O.length gc) O := by
        rw [hW]
        refine ⟨hown.alloc _, hbel.alloc hbel.size _, trio_new _ _ _, by simp, hbel.size, fun e => ?_⟩
        have := (hown.lt _ e).2
        omega
      generalize wr.heap.size = P at *
      obtain ⟨p0, p1, p2⟩ := hout.trio
      have hmW : 0 < ms.length → At3 W b2 o2 ms := fun h => hm.below hout.bel (hb2 h)
      clear hW d0 d1 d2 hown hbel
      go_cut [6] (fun jv w2 => ∃ (j2 m : Nat), j2 ≤ ms.length ∧ jv = .int .i64 j2 ∧ w2 = W.drewN m ∧ Hid ((ms.drop j).dropWhile (fun m => decide (m.e ≤ p.s)) = ms.drop j2))
      case first =>
        go_wp2
        go_loopg [6] (ms.length - j) (fun gk jv w2 => ∃ (j2 m : Nat), Hid (j2 + gk = ms.length) ∧ j2 ≤ ms.length ∧ jv = .int .i64 j2 ∧ w2 = W.drewN m ∧ Hid ((ms.drop j).dropWhile (fun m => decide (m.e ≤ p.s)) = (ms.drop j2).dropWhile (fun m => decide (m.e ≤ p.s))))
        case atStart => exact ⟨j, 0, by show _ = _; omega, hjl, rfl, rfl, rfl⟩
        case round =>
          obtain ⟨j2, m, hj2, hj2l, rfl, rfl, hdw⟩ := hrel
          by_cases hj : j2 < ms.length
          · obtain rfl := h2 (by omega)
            obtain ⟨e0, e1, e2⟩ := hmW (by omega) j2 hj
            have hjI : (j2 : Int) < (ms.length : Int) := by omega
            have hdj : decide ((j2 : Int) < (ms.length : Int)) = true := by simp; omega
            by_cases hle : ms[j2].e ≤ p.s
            · have Hd := drop_while_go ms p.s j2 hj hle
              have HD : Hid ((ms.drop j2).dropWhile (fun m => decide (m.e ≤ p.s)) = (ms.drop (j2 + 1)).dropWhile (fun m => decide (m.e ≤ p.s))) := Hd
              clear Hd
              have hle2 : decide (ms[j2].e ≤ p.s) = true := by simpa using hle
              go_wp2
              go_quiet (fail)
              go_wp2
              go_roundg (ms.length - (j2 + 1))
              case measure => have := hj2.out; omega
              case rel => exact ⟨j2 + 1, _, by show _ = _; omega, by omega, by go_num, rfl, hdw.out.trans HD.out⟩
            · have HD : Hid ((ms.drop j2).dropWhile (fun m => decide (m.e ≤ p.s)) = ms.drop j2) := drop_while_stop ms p.s j2 hj hle
              have hle2 : decide (ms[j2].e ≤ p.s) = false := by simpa using hle
              go_wp2
              go_quiet (fail)
              go_wp2
              go_meet
              case rel => exact ⟨j2, m + nq, hj2l, rfl, by rw [World.drewN_drewN], hdw.out.trans HD.out⟩
          · have HD : Hid ((ms.drop j2).dropWhile (fun m => decide (m.e ≤ p.s)) = ms.drop j2) := drop_while_end ms p.s j2 hj
            have hdj : decide (j2 < ms.length) = false := by simpa using hj
            go_wp2
            go_quiet (fail)
            go_wp2
            go_meet
            case rel => exact ⟨j2, m + nq, hj2l, rfl, by rw [World.drewN_drewN], hdw.out.trans HD.out⟩
      case rest =>
        obtain ⟨j2, m, hj2l, rfl, rfl, hdw⟩ := hcut
        have HO2 : Hid (O ++ (cutP p p.s (ms.drop j2) ++ subt (ps.drop (i + 1)) (ms.drop j2)) = subt ps ms) := by
          have := HO.out
          rw [hdw.out] at this
          exact this
        clear HO hdw
        go_upto_block 4 with fail
        go_cut [5, 9] (fun v av w3 => ∃ (O2 : List Pc) (ga : Option Addr) (gc : Nat) (a : Int), v = .slice ga O2.length gc ∧ av = .int .u64 a ∧ Out w w3 P p (.slice ga O2.length gc) O2 ∧ Hid (O2 ++ (endP p a ++ subt (ps.drop (i + 1)) (ms.drop j2)) = subt ps ms))
        case first =>
          go_wp2
          go_loopg [5, 9, 10] (ms.length - j2) (fun gk v av kv w3 => ∃ (O2 : List Pc) (ga : Option Addr) (gc : Nat) (a : Int) (k : Nat), Hid (k + gk = ms.length) ∧ k ≤ ms.length ∧ v = .slice ga O2.length gc ∧ av = .int .u64 a ∧ kv = .int .i64 k ∧ Out w w3 P p (.slice ga O2.length gc) O2 ∧ Hid (O2 ++ (cutP p a (ms.drop k) ++ subt (ps.drop (i + 1)) (ms.drop j2)) = subt ps ms))
          case atStart => exact ⟨O, ga, gc, p.s, j2, by show _ = _; omega, hj2l, rfl, rfl, rfl, hout.drewN _, HO2⟩
          case round =>
            obtain ⟨O2, ga, gc, a, k, hk, hkl, rfl, rfl, rfl, hout, hO2⟩ := hrel
            obtain ⟨p0, p1, p2⟩ := hout.trio
            by_cases hkk : k < ms.length
            · obtain rfl := h2 (by omega)
              have hmW := hm.below hout.bel (hb2 (by omega))
              obtain ⟨e0, e1, e2⟩ := hmW k hkk
              have hkI : (k : Int) < (ms.length : Int) := by omega
              have hdk : decide ((k : Int) < (ms.length : Int)) = true := by simp; omega
              by_cases hse : ms[k].s < p.e
              · have hse2 : decide (ms[k].s < p.e) = true := by simpa using hse
                have hc := cutP_go p a ms k hkk hse
                go_wp2
                go_quiet (fail)
                by_cases has : a < ms[k].s
                · rw [if_pos has] at hc
                  have HO3 : Hid ((O2 ++ [⟨a, ms[k].s, p.o⟩]) ++ (cutP p ms[k].e (ms.drop (k + 1)) ++ subt (ps.drop (i + 1)) (ms.drop j2)) = subt ps ms) := by
                    have := hO2.out
                    rw [hc] at this
                    show _ = _
                    rw [← this]
                    simp
                  have hol : O2.length ≤ 500000000 := by
                    have := congrArg List.length hO2.out
                    simp only [List.length_append] at this
                    omega
                  clear hc hO2
                  obtain ⟨V, hV⟩ : ∃ V, V = wr.drewN nq := ⟨_, rfl⟩
                  rw [← hV]
                  have houtV : Out w V P p (.slice ga O2.length gc) O2 := by rw [hV]; exact hout.drewN nq
                  have q0 := houtV.trio.1
                  have q1 := houtV.trio.2.1
                  have q2 := houtV.trio.2.2
                  have hmV := hm.below houtV.bel (hb2 (by omega))
                  obtain ⟨f0, f1, f2⟩ := hmV k hkk
                  have hPl := houtV.lt
                  have hPg := houtV.ge
                  clear hV hout p0 p1 p2 e0 e1 e2
                  go_wp2
                  go_region_law ((refine step_append_lies _ (by rfl) (.tmp 65) (.tmp 77) 25 (by rfl) w.heap.size 34 i0 _ 3 24 Try.underlying25 hi0 hz0 hz1 hz2 rfl (by decide) (.slice ga O2.length gc) O2.length (pcells O2) (by simp [Act.eval]) (houtV.own.alloc _) ⟨V.heap.size, 0, none⟩ 1 1 [.int .u64 a, .int .u64 ms[k].s, .int .i64 p.o] (by simp [Act.eval]) rfl (World.news_of_block (heap_alloc_new V _)) (by simp [Value.oneCell']) (by decide) (by unfold maxLen; omega) (by omega) (by simp; omega) (V.heap.size + 1) (by simp) ?_; intro g3 cap3 w3 hown3 hgrow3 hat3 hlt3))
                  all_goals
                    have hout3 := houtV.app _ ⟨a, ms[k].s, p.o⟩ hown3 ⟨hgrow3.os, hgrow3.tape, hgrow3.output, hgrow3.size, hgrow3.block⟩ hat3
                    have hm3 := hm.below hout3.bel (hb2 (by omega))
                    obtain ⟨g0, g1, g2⟩ := hm3 k hkk
                    have hl3 : Hid ((O2 ++ [(⟨a, ms[k].s, p.o⟩ : Pc)]).length = O2.length + 1) := by show _ = _; simp
                    clear hown3 hgrow3 hat3 hlt3 houtV q0 q1 q2 f0 f1 f2
                    go_wp2
                    go_roundg (ms.length - (k + 1))
                    case measure => have := hk.out; omega
                    case rel => exact ⟨O2 ++ [⟨a, ms[k].s, p.o⟩], some ⟨g3, 0, none⟩, cap3, _, k + 1, by show _ = _; omega, by omega, by rw [hl3.out], rfl, by go_num, hout3, HO3⟩
                · rw [if_neg has, List.nil_append] at hc
                  have HO3 : Hid (O2 ++ (cutP p ms[k].e (ms.drop (k + 1)) ++ subt (ps.drop (i + 1)) (ms.drop j2)) = subt ps ms) := by
                    have := hO2.out
                    rw [hc] at this
                    exact this
                  clear hc
                  go_wp2
                  go_roundg (ms.length - (k + 1))
                  case measure => have := hk.out; omega
                  case rel => exact ⟨O2, ga, gc, _, k + 1, by show _ = _; omega, by omega, rfl, rfl, by go_num, hout.drewN _, HO3⟩
              · have HO3 : Hid (O2 ++ (endP p a ++ subt (ps.drop (i + 1)) (ms.drop j2)) = subt ps ms) := by
                  have := hO2.out
                  rw [cutP_stop p a ms k hkk hse] at this
                  exact this
                have hse2 : decide (ms[k].s < p.e) = false := by simpa using hse
                go_wp2
                go_quiet (fail)
                go_wp2
                go_meet
                case rel => exact ⟨O2, ga, gc, a, rfl, rfl, hout.drewN _, HO3⟩
            · have HO3 : Hid (O2 ++ (endP p a ++ subt (ps.drop (i + 1)) (ms.drop j2)) = subt ps ms) := by
                have := hO2.out
                rw [cutP_end p a ms k hkk] at this
                exact this
              have hdk : decide (k < ms.length) = false := by simpa using hkk
              go_wp2
              go_quiet (fail)
              go_wp2
              go_meet
              case rel => exact ⟨O2, ga, gc, a, rfl, rfl, hout.drewN _, HO3⟩
        case rest =>
          obtain ⟨O2, ga, gc, a, rfl, rfl, hout2, hO2⟩ := hcut
          obtain ⟨q0, q1, q2⟩ := hout2.trio
          have hPl := hout2.lt
          have hPg := hout2.ge
          have hol : O2.length ≤ 500000000 := by
            have := congrArg List.length hO2.out
            simp only [List.length_append] at this
            omega
          by_cases hae : a < p.e
          · have HO3 : Hid ((O2 ++ [⟨a, p.e, p.o⟩]) ++ subt (ps.drop (i + 1)) (ms.drop j2) = subt ps ms) := by
              have := hO2.out
              rw [endP, if_pos hae] at this
              show _ = _
              rw [← this]
              simp
            clear hO2
            go_wp2_with (at_builtin; refine wpList_append_lies _ rfl (.tmp 90) (.tmp 99) 25 rfl w.heap.size 34 i0 _ 3 24 Try.underlying25 hi0 hz0 hz1 hz2 rfl (by decide) (.slice ga O2.length gc) O2.length (pcells O2) rfl (hout2.own.alloc _) ⟨_, 0, none⟩ 1 1 [.int .u64 a, .int .u64 p.e, .int .i64 p.o] rfl rfl (World.news_of_block (heap_alloc_new _ _)) (by simp [Value.oneCell']) (by decide) (by unfold maxLen; omega) (by omega) (by simp; omega) _ rfl ?_; intro g3 cap3 w3 hown3 hgrow3 hat3 hlt3)
            have hout3 := hout2.app _ ⟨a, p.e, p.o⟩ hown3 hgrow3 (by simpa using hat3)
            have hl3 : Hid ((O2 ++ [(⟨a, p.e, p.o⟩ : Pc)]).length = O2.length + 1) := by show _ = _; simp
            clear hown3 hgrow3 hat3 hlt3
            go_wp2
            go_roundg (ps.length - (i + 1))
            case measure => have := hi.out; omega
            case rel => exact ⟨i + 1, j2, O2 ++ [⟨a, p.e, p.o⟩], some ⟨g3, 0, none⟩, cap3, by have := hi.out; show _ = _; omega, by go_num, hj2l, rfl, by rw [hl3.out], hout3.own, hout3.bel, HO3⟩
          · have HO3 : Hid (O2 ++ subt (ps.drop (i + 1)) (ms.drop j2) = subt ps ms) := by
              have := hO2.out
              rw [endP, if_neg hae] at this
              show _ = _
              rw [← this]
              simp
            clear hO2
            go_wp2
            go_roundg (ps.length - (i + 1))
            case measure => have := hi.out; omega
            case rel => exact ⟨i + 1, j2, O2, ga, gc, by have := hi.out; show _ = _; omega, by go_num, hj2l, rfl, rfl, hout2.own, hout2.bel, HO3⟩
    · have hie : i = ps.length := by have := hi.out; omega
      subst hie
      have hfin := hO.out
      rw [List.drop_length, subt, List.append_nil] at hfin
      subst hfin
      go_wp2
      go_ret
      exact ⟨ga, gc, rfl, hbel, rd_of_owns hown rfl⟩

theorem subt_bound (ps ms : List Pc) (h1 : ps.length ≤ 20000) (h2 : ms.length ≤ 20000) : (subt ps ms).length ≤ 500000000 := by
  have h3 := subt_len ps ms 20001 (by omega)
  omega

theorem sub_any (a1 a2 : Option Addr) (n1 c1 n2 c2 : Nat) (ps ms : List Pc) (w : World) (e1 : n1 = ps.length) (e2 : n2 = ms.length) (h1 : Rd w a1 ps) (h2 : Rd w a2 ms) (hn1 : ps.length ≤ 20000) (hn2 : ms.length ≤ 20000) :
    Calls Try.prog 10 #[.slice a1 n1 c1, .slice a2 n2 c2] w fun e w' => ∃ ga gc, e = .returned (.slice ga (subt ps ms).length gc) ∧ Below w.heap.size w w' ∧ Rd w' ga (subt ps ms) := by
  subst e1 e2
  have x1 : ∃ b o, (0 < ps.length → a1 = some ⟨b, o, none⟩) ∧ At3 w b o ps ∧ (0 < ps.length → b < w.heap.size) := by
    rcases h1 with rfl | ⟨b, o, h, hb, hp⟩
    · exact ⟨0, 0, fun h => absurd h (by simp), At3.nil _ _ _, fun h => absurd h (by simp)⟩
    · exact ⟨b, o, fun _ => h, hp, fun _ => hb⟩
  have x2 : ∃ b o, (0 < ms.length → a2 = some ⟨b, o, none⟩) ∧ At3 w b o ms ∧ (0 < ms.length → b < w.heap.size) := by
    rcases h2 with rfl | ⟨b, o, h, hb, hp⟩
    · exact ⟨0, 0, fun h => absurd h (by simp), At3.nil _ _ _, fun h => absurd h (by simp)⟩
    · exact ⟨b, o, fun _ => h, hp, fun _ => hb⟩
  obtain ⟨b1, o1, p1, p2, p3⟩ := x1
  obtain ⟨b2, o2, q1, q2, q3⟩ := x2
  exact sub_walk a1 a2 b1 o1 b2 o2 c1 c2 ps ms w p1 q1 p2 q2 p3 q3 hn1 hn2 (subt_bound ps ms hn1 hn2)
end Go.Proofs.Qxb6617406a
