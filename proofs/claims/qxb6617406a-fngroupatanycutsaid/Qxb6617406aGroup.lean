import Derived.Test.Qxb6617406aGroupParts
import Derived.Deep.RegionLaw
import Derived.Deep.DrawnRows
import Derived.Deep.DeepCutAuto
import Derived.Deep.LoopGhost
namespace Go.Proofs.Qxb6617406a
open Go.ChangeShapes Go.WideShapes Go.ChangeAt Go.RowKit Go.Maps
attribute [local go_sem ↓] Go.wp_at_zero Go.wp_at_succ

theorem Try.info45 : (Try.prog.info? 45).map (fun i => (i.zero, i.size, i.bytes)) = some (some (.agg #[.int .i64 0, .slice none 0 0]), 2, 32) := by kernel_rfl
theorem Try.info32 : (Try.prog.info? 32).map (fun i => (i.zero, i.size, i.bytes)) = some (some (.agg #[.int .u64 0, .int .u64 0]), 2, 16) := by kernel_rfl

/-- the three cells of a block that is new -/
def Three (w : World) (P : Nat) (x y z : Value) : Prop := w.cell? ⟨P, 0, none⟩ = some x ∧ w.cell? ⟨P, 1, none⟩ = some y ∧ w.cell? ⟨P, 2, none⟩ = some z
theorem three_new (w : World) (x y z : Value) (t : TypeId) : Three (w.alloc (.cells #[x, y, z] t)) w.heap.size x y z := by
  refine ⟨?_, ?_, ?_⟩ <;> simp
theorem Three.of_block {w w' : World} {P : Nat} {x y z : Value} (h : Three w P x y z) (hb : w'.heap[P]? = w.heap[P]?) : Three w' P x y z :=
  ⟨(World.cell?_of_block hb).trans h.1, (World.cell?_of_block hb).trans h.2.1, (World.cell?_of_block hb).trans h.2.2⟩

/-- behind the 'if': the i-th holding is the owner's; its ranges are still as they were -/
def Mid (w wc : World) (p : Pc) (hs1 : List Hd) (k : Nat) (v pp iv : Value) : Prop :=
  ∃ (hs : List Hd) (rv : List Value) (g cap i P : Nat), v = .slice (some ⟨g, 0, none⟩) hs.length cap ∧ pp = .pointer (some ⟨P, 0, none⟩) ∧ iv = .int .i64 i ∧ i < hs.length ∧
    Below w.heap.size w wc ∧ Hold wc (w.heap.size + 1) (.slice (some ⟨g, 0, none⟩) hs.length cap) hs rv ∧ MapIs wc w.heap.size hs ∧ Three wc P (.int .u64 p.s) (.int .u64 p.e) (.int .i64 p.o) ∧ hs1 = addR hs i (p.s, p.e) ∧ hs.length ≤ k + 1 ∧ (∀ j (hj : j < hs.length), hs[j].rs.length ≤ k)

theorem mid_add {w wc w3 : World} {hs : List Hd} {rv : List Value} {g cap i g3 cap3 : Nat} {r : Int × Int} {rr : Value} (hbel : Below w.heap.size w wc) (hold : Hold wc (w.heap.size + 1) (.slice (some ⟨g, 0, none⟩) hs.length cap) hs rv)
    (hmap : MapIs wc w.heap.size hs) (hi : i < hs.length) (hi' : i < rv.length) (hrr : rv[i] = rr) (ob : Obj)
    (hown : w3.ownsRow (w.heap.size + 1) 32 2 (.slice (some ⟨g3, 0, none⟩) (hs[i].rs.length + 1) cap3) (hs[i].rs.length + 1) (rcells hs[i].rs ++ [.int .u64 r.1, .int .u64 r.2]))
    (hg : (wc.alloc ob).grownBy w3 rr.ownBlock) (hat : rr.ownBlock = some g3 ∨ g3 = wc.heap.size + 1) :
    Below w.heap.size w (w3.setCell ⟨g, i * 2 + 1, none⟩ (.slice (some ⟨g3, 0, none⟩) (hs[i].rs.length + 1) cap3)) ∧
    Hold (w3.setCell ⟨g, i * 2 + 1, none⟩ (.slice (some ⟨g3, 0, none⟩) (hs[i].rs.length + 1) cap3)) (w.heap.size + 1) (.slice (some ⟨g, 0, none⟩) (addR hs i r).length cap) (addR hs i r) (rv.set i (.slice (some ⟨g3, 0, none⟩) (hs[i].rs.length + 1) cap3)) ∧
    MapIs (w3.setCell ⟨g, i * 2 + 1, none⟩ (.slice (some ⟨g3, 0, none⟩) (hs[i].rs.length + 1) cap3)) w.heap.size (addR hs i r) := by
  subst hrr
  have hgl := hold.row.lt g rfl
  have hrl := (hold.each i hi hi').lt
  have hM := hmap.lt
  have hadd := (hold.alloc ob).add hi hi' r hown hg (by simpa using hat)
  refine ⟨?_, ?_, ?_⟩
  · refine ((hbel.alloc (by omega) ob).grown hg (by simp; omega) (fun k hk => ?_)).setCell (by simp; omega) _
    have := hrl k hk; omega
  · rw [addR_length]; exact hadd
  · refine MapIs.owner (hs := hs) ?_ (addR_owners hs i r)
    refine MapIs.set ((hmap.alloc ob).kept hg (fun e => ?_)) g _ _ (by omega)
    have := hrl _ e.symm; omega

set_option maxHeartbeats 1000000 in
theorem group_some (b o c : Nat) (ps : List Pc) (w : World) (hc : At3 w b o ps) (hok : ∀ i (h : i < ps.length), ps[i].ok) (hn : ps.length ≤ 4096) (hb : b < w.heap.size) :
    Calls Try.prog 19 #[.slice (some ⟨b, o, none⟩) ps.length c] w fun e w' => ∃ ga gc rv, e = .returned (.slice ga (group ps).length gc) ∧ Below w.heap.size w w' ∧ Hold w' (w.heap.size + 1) (.slice ga (group ps).length gc) (group ps) rv := by
  obtain ⟨i1, hi1, hy0, hy1, hy2⟩ := info_parts Try.info45
  obtain ⟨i2, hi2, hx0, hx1, hx2⟩ := info_parts Try.info32
  have hmm := @run_makeMap Try.prog
  go_enter Try.func19, Try.ntmps19
  go_wp2
  go_loopg [3, 12] ps.length (fun gk v i wr => ∃ (k : Nat) (rv : List Value) (ga : Option Addr) (gc : Nat), k + gk = ps.length ∧ i = .int .i64 k ∧ v = .slice ga (group (ps.take k)).length gc ∧ Below w.heap.size w wr ∧ Hold wr (w.heap.size + 1) (.slice ga (group (ps.take k)).length gc) (group (ps.take k)) rv ∧ MapIs wr w.heap.size (group (ps.take k)))
  case atStart => exact ⟨0, [], none, 0, Nat.zero_add _, rfl, rfl, (Below.refl _ _).alloc (Nat.le_refl _) _, Hold.start _ _, ⟨_, World.ownsMap_made _ _ _ _, tie_nil⟩⟩
  case round =>
    obtain ⟨k, rv, ga, gc, hk, rfl, rfl, hbel, hold, hmap⟩ := hrel
    by_cases hlt : k < ps.length
    · obtain ⟨c0, c1, c2⟩ := hc k hlt
      rw [← hbel.cell (p := ⟨b, o + k * 3, none⟩) hb] at c0
      rw [← hbel.cell (p := ⟨b, o + k * 3 + 1, none⟩) hb] at c1
      rw [← hbel.cell (p := ⟨b, o + k * 3 + 2, none⟩) hb] at c2
      have hkI : (k : Int) < (ps.length : Int) := by omega
      have hgl := group_len ps k (by omega)
      have hgr := group_rs ps k (by omega)
      have hg1 := group_take ps k hlt
      generalize hgen : group (ps.take (k + 1)) = hs1 at *
      have Hgen : Hid (group (ps.take (k + 1)) = hs1) := hgen
      clear hgen
      generalize group (ps.take k) = hs at *
      have hokk := hok k hlt
      have hwf : (Lit.int .i64 ps[k].o).wf = true := WalkArith.wf_i64 (by unfold Pc.ok at hokk; omega)
      have Hg : Hid (hs1 = addP hs ps[k]) := hg1
      clear hg1
      have Hk : Hid (k + gk = ps.length) := hk
      clear hk
      have hMlt := hmap.lt
      obtain ⟨x, bb, hlook, Hcase⟩ : ∃ (x : Nat) (bb : Bool), (∀ ob, (Instr.lookup 49 (.map (some w.heap.size)) (.int .i64 ps[k].o) true).run Try.prog (wr.alloc ob) = .ok (.tuple #[.int .i64 x, .bool bb]) (wr.alloc ob)) ∧ Hid ((bb = true ∧ x = pos hs ps[k].o ∧ pos hs ps[k].o < hs.length) ∨ (bb = false ∧ ¬ pos hs ps[k].o < hs.length)) := by
        by_cases hp : pos hs ps[k].o < hs.length
        · refine ⟨pos hs ps[k].o, true, fun ob => ?_, .inl ⟨rfl, rfl, hp⟩⟩
          have := (hmap.alloc ob).look_in (pos hs ps[k].o) hp (by rw [pos_owner hs _ hp]; exact hwf)
          rwa [pos_owner hs _ hp] at this
        · exact ⟨0, false, fun ob => (hmap.alloc ob).look_out ps[k].o (pos_absent hs _ hp) hwf, .inr ⟨rfl, hp⟩⟩
      go_upto_if 24 with (fail)
      go_cut [3, 6, 7] (fun v pp iv wc => Mid w wc ps[k] hs1 k v pp iv)
      case first =>
        rcases Hcase.out with ⟨rfl, hx, hp⟩ | ⟨rfl, hp⟩
        · have Hx : Hid (x = pos hs ps[k].o) := hx
          clear hx hlook
          go_wp2
          go_meet
          case rel =>
            obtain ⟨g, cap, hv, hb1, hb2⟩ := hold.row.form (by omega)
            simp at hv
            obtain ⟨rfl, rfl⟩ := hv
            have hxx := Hx.out
            refine ⟨hs, rv, g, gc, x, wr.heap.size, rfl, rfl, rfl, by omega, hbel.alloc (by omega) _, hold.alloc _, hmap.alloc _, three_new _ _ _ _ _, ?_, by omega, hgr⟩
            rw [Hg.out, hxx]
            unfold addP
            rw [if_pos hp]
        · obtain ⟨D, hD, hT⟩ := hmap
          clear hlook
          go_wp2_with (first
            | (at_mapUpdate; refine wpList_mapUpdate_own _ rfl _ _ _ 49 rfl 3 3 law3 Try.underlying49 (plainElem Try.prog 3) w.heap.size hs.length D rfl (hD.alloc _) (by unfold maxLen; omega) _ _ _ rfl rfl (Maps.keyOf_int_mk Try.underlying3 hwf) _ [] (plainElem_int Try.underlying3 (WalkArith.wf_i64 (by omega))) ?_; intro w1 hD1 hgrow1; obtain ⟨q0, q1, q2⟩ := (three_new wr _ _ _ 34).of_block (hgrow1.block wr.heap.size (by simp) (by simp; omega)))
            | (at_builtin; refine wpList_append_lies _ rfl (.tmp 31) (.tmp 35) 41 rfl (w.heap.size + 1) 45 i1 _ 2 32 Try.underlying41 hi1 hy0 hy1 hy2 rfl (by decide) _ hs.length _ rfl (((hold.alloc _).kept hgrow1 (fun k e => by cases e; omega)).alloc _).row ⟨w1.heap.size, 0, none⟩ 1 1 [.int .i64 ps[k].o, .slice none 0 0] rfl rfl (World.news_of_block (heap_alloc_new w1 _)) (by simp [Value.oneCell']) (by decide) (by unfold maxLen; omega) (by omega) (by have := hD1.lt; simp; omega) _ rfl ?_; intro g cap w2 hown2 hgrow2 hat2 hlt2))
          go_meet
          case rel =>
            have hold2 := (((hold.alloc _).kept hgrow1 (fun k e => by cases e; omega)).alloc (.cells #[.int .i64 ps[k].o, .slice none 0 0] 45)).push ps[k].o hown2 hgrow2
            have hw1 := hD1.lt
            have hP : wr.heap.size < w1.heap.size := by have := hgrow1.size; simp at this; omega
            have hlv : ∀ j, (Value.slice ga hs.length gc).ownBlock = some j → w.heap.size + 1 ≤ j ∧ j < wr.heap.size := hold.row.lt
            have hmap1 := (MapIs.put hT hD.isMap ps[k].o (pos_absent hs _ hp) hD1)
            refine ⟨hs ++ [⟨ps[k].o, []⟩], rv ++ [.slice none 0 0], g, cap, hs.length, wr.heap.size, by simp, rfl, rfl, by simp, ?_, by simpa using hold2, ?_, ?_, ?_, by simp; omega, ?_⟩
            · refine (((hbel.alloc (by omega) _).grown hgrow1 (by simp; omega) (fun j hj => by cases hj; exact Nat.le_refl _)).alloc (by omega) _).grown hgrow2 (by simp; omega) (fun j hj => ?_)
              have := hlv j hj; omega
            · refine (hmap1.alloc _).kept hgrow2 (fun e => ?_)
              have := hlv _ e.symm; omega
            · refine Three.of_block (w := w1) ⟨q0, q1, q2⟩ ?_
              rw [hgrow2.block wr.heap.size (by simp; omega) ?_, Below.heap_alloc _ _ _ hP]
              intro e
              have := hlv _ e.symm
              omega
            · rw [Hg.out]
              unfold addP
              rw [if_neg hp]
            · intro j hj
              by_cases h1 : j < hs.length
              · rw [List.getElem_append_left h1]; exact hgr j h1
              · rw [List.getElem_append_right (by omega)]; simp
      case rest =>
        obtain ⟨hs', rv', g, cap, i, P, rfl, rfl, rfl, hi, hbel', hold', hmap', ⟨p0, p1, p2⟩, hg1, hlen', hrs'⟩ := hcut
        have Hg1 : Hid (hs1 = addR hs' i (ps[k].s, ps[k].e)) := hg1
        clear hg1
        have hi' : i < rv'.length := by rw [hold'.len]; exact hi
        have hri := hold'.each i hi hi'
        have hrl := hrs' i hi
        have Hrc : Hid (wc.cell? ⟨g, i * 2 + 1, none⟩ = some rv'[i]) := by
          show _ = _
          rw [hold'.row.cellAt (i * 2 + 1) (by omega)]
          exact (hcells_get hs' rv' i hi hi').2
        generalize hr : rv'[i] = r at *
        have Hr : Hid (rv'[i] = r) := hr
        clear hr
        have hrc := Hrc.out
        have hrf := hold'.row.frozenAt (i * 2 + 1)
        have hII : (i : Int) < (hs'.length : Int) := by omega
        have hMl := hmap'.lt
        have hgl2 := hold'.row.lt g rfl
        have hne : r.ownBlock ≠ some g := by
          rcases apart_types hri hold'.row (by decide) with h0 | h0
          · rw [h0]; simp
          · exact h0
        have hrb : ∀ j, r.ownBlock = some j → w.heap.size + 1 ≤ j ∧ j < wc.heap.size := hri.lt
        have hrcA : ∀ ob, (wc.alloc ob).cell? ⟨g, i * 2 + 1, none⟩ = some r := fun ob => (World.cell?_of_block (Below.heap_alloc wc ob _ hgl2.2)).trans hrc
        have hrfA : ∀ ob, (wc.alloc ob).frozen? ⟨g, i * 2 + 1, none⟩ = false := fun ob => (World.frozen?_of_block (Below.heap_alloc wc ob _ hgl2.2)).trans hrf
        have Hne : Hid (some g ≠ r.ownBlock) := Ne.symm hne
        have Hrb : Hid (∀ j, r.ownBlock = some j → w.heap.size + 1 ≤ j ∧ j < wc.heap.size) := hrb
        clear hne hrb
        go_wp2
        go_region_law ((refine step_append_lies _ (by rfl) (.tmp 43) (.tmp 46) 43 (by rfl) (w.heap.size + 1) 32 i2 _ 2 16 Try.underlying43 hi2 hx0 hx1 hx2 rfl (by decide) r hs'[i].rs.length (rcells hs'[i].rs) (by simp [Act.eval]) (hri.alloc _) ⟨wc.heap.size, 0, none⟩ 1 1 [.int .u64 ps[k].s, .int .u64 ps[k].e] (by simp [Act.eval]) rfl (World.news_of_block (heap_alloc_new wc _)) (by simp [Value.oneCell']) (by decide) (by unfold maxLen; omega) (by omega) (by simp; omega) (wc.heap.size + 1) (by simp) ?_; intro g3 cap3 w3 hown3 hgrow3 hat3 hlt3; have e1 := (hgrow3.cell_far ⟨g, i * 2 + 1, none⟩ (by simp; omega) Hne.out).trans (hrcA _); have e2 := (hgrow3.frozen_far ⟨g, i * 2 + 1, none⟩ (by simp; omega) Hne.out).trans (hrfA _)))
        all_goals
          have R := mid_add (r := (ps[k].s, ps[k].e)) hbel' hold' hmap' hi hi' Hr.out _ hown3 ⟨hgrow3.os, hgrow3.tape, hgrow3.output, hgrow3.size, hgrow3.block⟩ hat3
          have Hl : Hid (hs1.length = hs'.length) := by show _ = _; rw [Hg1.out, addR_length]
          rw [← Hg1.out] at R
          have HR := R
          clear hown3 hgrow3 hat3 hlt3 e1 e2 hrcA hrfA hri hrc hrf R
          go_wp2
          have hkk := Hk.out
          go_roundg (gk - 1)
          case measure => omega
          case rel => exact ⟨k + 1, _, some ⟨g, 0, none⟩, cap, by omega, by go_num, by rw [Hgen.out, Hl.out], by rw [Hgen.out]; exact HR⟩
    · have hk2 : k = ps.length := by omega
      subst hk2
      go_wp2
      go_ret
      have e := List.take_length (l := ps)
      refine ⟨ga, gc, rv, ?_, hbel, by rw [e] at hold; exact hold⟩
      show Ending.returned (.slice ga (group (ps.take ps.length)).length gc) = _
      rw [e]

theorem group_empty (a : Option Addr) (c : Nat) (w : World) :
    Calls Try.prog 19 #[.slice a 0 c] w fun e w' => e = .returned (.slice none 0 0) ∧ Below w.heap.size w w' := by
  have hmm := @run_makeMap Try.prog
  go_enter Try.func19, Try.ntmps19
  go_wp2
  refine wp_loop_rounds 1 ?_
  rw [rounds_succ]
  go_wp2
  go_ret
  exact ⟨rfl, (Below.refl _ _).alloc (Nat.le_refl _) _⟩

theorem group_any (a : Option Addr) (n c : Nat) (ps : List Pc) (w : World) (hl : n = ps.length) (hr : Rd w a ps) (hok : ∀ i (h : i < ps.length), ps[i].ok) (hn : ps.length ≤ 4096) :
    Calls Try.prog 19 #[.slice a n c] w fun e w' => ∃ ga gc rv, e = .returned (.slice ga (group ps).length gc) ∧ Below w.heap.size w w' ∧ Hold w' (w.heap.size + 1) (.slice ga (group ps).length gc) (group ps) rv := by
  subst hl
  by_cases h0 : ps = []
  · subst h0
    exact (group_empty a c w).mono fun e w' ⟨h1, h2⟩ => ⟨none, 0, [], h1, h2, Hold.start _ _⟩
  · rcases hr with h | ⟨b, o, rfl, h2, h3⟩
    · exact absurd h h0
    · exact group_some b o c ps w h3 hok hn h2
end Go.Proofs.Qxb6617406a
