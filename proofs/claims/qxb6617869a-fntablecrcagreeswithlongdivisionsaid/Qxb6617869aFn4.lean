import Derived.Test.Qxb6617869aCrcLaw
import Derived.Deep.CutBlock
import Derived.Deep.DeepCutAuto
namespace Go.Proofs.Qxb6617869a
open Go.ChangeShapes Go.WideShapes Go.ChangeAt Go.RowKit

def BAt (w : World) (b o : Nat) (ds : List Nat) : Prop := ∀ k (h : k < ds.length), w.cell? ⟨b, o + k, none⟩ = some (.int .u8 (ds[k] : Nat))
theorem BAt.of_block {w w' : World} {b o : Nat} {ds : List Nat} (h : BAt w b o ds) (hb : w'.heap[b]? = w.heap[b]?) : BAt w' b o ds :=
  fun k hk => (World.cell?_of_block hb).trans (h k hk)
theorem BAt.below {w w' : World} {b o B : Nat} {ds : List Nat} (h : BAt w b o ds) (hb : Below B w w') (hlt : b < B) : BAt w' b o ds := h.of_block (hb.block b hlt)
def Bt (w : World) (a : Option Addr) (ds : List Nat) : Prop := ds = [] ∨ ∃ b o, a = some ⟨b, o, none⟩ ∧ b < w.heap.size ∧ BAt w b o ds
theorem Bt.below {w w' : World} {a : Option Addr} {ds : List Nat} (h : Bt w a ds) (hb : Below w.heap.size w w') : Bt w' a ds := by
  rcases h with h | ⟨b, o, h1, h2, h3⟩
  · exact .inl h
  · exact .inr ⟨b, o, h1, Nat.lt_of_lt_of_le h2 hb.size, h3.below hb h2⟩
theorem Bt.drawn {w : World} {a : Option Addr} {ds : List Nat} (h : Bt w a ds) (w' : World) (e : w'.heap = w.heap) : Bt w' a ds := by
  rcases h with h | ⟨b, o, h1, h2, h3⟩
  · exact .inl h
  · exact .inr ⟨b, o, h1, by rw [e]; exact h2, h3.of_block (by rw [e])⟩
theorem Bt.open {w : World} {a : Option Addr} {ds : List Nat} (h : Bt w a ds) : ∃ b o, (0 < ds.length → a = some ⟨b, o, none⟩) ∧ BAt w b o ds ∧ (0 < ds.length → b < w.heap.size) := by
  rcases h with rfl | ⟨b, o, h, hb, hp⟩
  · exact ⟨0, 0, fun h => absurd h (by simp), fun k h => absurd h (by simp), fun h => absurd h (by simp)⟩
  · exact ⟨b, o, fun _ => h, hp, fun _ => hb⟩

set_option maxHeartbeats 1000000 in
theorem tcrc_any (T c n cp : Nat) (a : Option Addr) (ds : List Nat) (w : World) (hl : n = ds.length) (hc : c < 65536) (hr : Bt w a ds) (hd : ∀ k (h : k < ds.length), ds[k] < 256) (hn : ds.length ≤ 65536) (ht : TabAt w T 256) :
    Calls Try.prog 8 #[.pointer (some ⟨T, 0, none⟩), .int .u16 c, .slice a n cp] w fun e w' => e = .returned (.int .u16 (crcs c ds : Nat)) ∧ ∃ m, w' = w.drewN m := by
  subst hl
  obtain ⟨b, o, ha, hat, _⟩ := hr.open
  have HT : Hid (TabAt w T 256) := ht
  clear ht
  go_enter Try.func8, Try.ntmps8
  go_wp2
  go_loopg [1, 7] ds.length (fun gk cv kv wr => ∃ k m : Nat, Hid (k + gk = ds.length) ∧ cv = .int .u16 (crcs c (ds.take k) : Nat) ∧ kv = .int .i64 k ∧ wr = w.drewN m)
  case atStart => exact ⟨0, 0, Nat.zero_add _, rfl, rfl, rfl⟩
  case round =>
    obtain ⟨k, m, hk, rfl, rfl, rfl⟩ := hrel
    by_cases hlt : k < ds.length
    · obtain rfl := ha (by omega)
      have e0 := hat k hlt
      have hdk := hd k hlt
      have hkI : (k : Int) < (ds.length : Int) := by omega
      have hcl := crcs_lt (ds.take k) c hc
      have HS : Hid (crcs c (ds.take (k + 1)) = crcB (crcs c (ds.take k)) ds[k]) := crcs_take c ds k hlt
      generalize crcs c (ds.take k) = x at *
      generalize ds[k] = d at *
      have hidx : (x / 256) ^^^ d < 256 := Nat.xor_lt_two_pow (n := 8) (by omega) (by omega)
      have hx : bits .xor .u8 ((x : Int) / 256) (d : Int) = (((x / 256) ^^^ d : Nat) : Int) := u8_xor_nat (x / 256) d (by omega) hdk
      have HV0 : Hid (crcB x d = (x * 256 % 65536) ^^^ tab ((x / 256) ^^^ d)) := rfl
      have t0 := HT.out _ hidx
      generalize (x / 256) ^^^ d = idx at *
      have hidxI : (idx : Int) < 256 := by omega
      have htl : tab idx < 65536 := it_lt _ (by omega) 8
      have HY : Hid (bits .xor .u16 ((x : Int) * 256 % 65536) (tab idx : Nat) = (((x * 256 % 65536) ^^^ tab idx : Nat) : Int)) := u16_xor_nat (x * 256 % 65536) (tab idx) (by omega) htl
      go_wp2
      go_quiet (fail)
      go_wp2
      go_roundg (ds.length - (k + 1))
      case measure => have := hk.out; omega
      case rel => exact ⟨k + 1, _, by have := hk.out; show _ = _; omega, by rw [HS.out, HV0.out, IntKind.wrap_u16, HY.out], by go_num, rfl⟩
    · have hke : k = ds.length := by have := hk.out; omega
      subst hke
      rw [List.take_length]
      go_wp2
      go_ret
      exact ⟨rfl, _, rfl⟩

/-! ### a row of bools -/
def BR (w : World) (B n : Nat) (f : Nat → Bool) : Prop := RowOf w B 4 n ∧ ∀ k, k < n → w.cell? ⟨B, k, none⟩ = some (.bool (f k))
theorem BR.set {w : World} {B n : Nat} {f : Nat → Bool} (h : BR w B n f) (x : Nat) (v : Bool) (hx : x < n) : BR (w.setCell ⟨B, x, none⟩ (.bool v)) B n (fun k => if k = x then v else f k) := by
  refine ⟨h.1.setCell _ _, fun k hk => ?_⟩
  by_cases e : k = x
  · subst e; simp only [if_true]; exact cell_set_same (h.2 k hk)
  · simp only [if_neg e]; rw [cell_set_other (Ne.symm e)]; exact h.2 k hk
theorem BR.congr {w : World} {B n : Nat} {f g : Nat → Bool} (h : BR w B n f) (e : ∀ k, k < n → f k = g k) : BR w B n g :=
  ⟨h.1, fun k hk => by rw [← e k hk]; exact h.2 k hk⟩
theorem BR.drewN {w : World} {B n : Nat} {f : Nat → Bool} (h : BR w B n f) (m : Nat) : BR (w.drewN m) B n f := h

theorem Try.info4 : (Try.prog.info? 4).map (fun i => (i.zero, i.size, i.bytes)) = some (some (.bool false), 1, 1) := by kernel_rfl

theorem br_made {w : World} {B g n : Nat} (h : w.ownsRow B 4 1 (.slice (some ⟨g, 0, none⟩) n n) n (madeCells (Value.cells (.bool false)) (n * 1)).toList) : BR w g n (fun _ => false) := by
  have hr : RowOf w g 4 n := by
    rcases h.2 with ⟨h, _⟩ | ⟨g', cap', cur, hv, _, hh, _, _, hs, _⟩
    · simp at h
    · simp at hv
      obtain ⟨rfl, rfl⟩ := hv
      exact ⟨cur, hh, by omega⟩
  refine ⟨hr, fun k hk => ?_⟩
  rw [h.cellAt k (by omega), show Value.cells (.bool false) = #[.bool false] from rfl, toList_madeCells_one]
  simp [hk]

theorem zzBytes7 (a : Option Addr) (n c : Nat) (w : World) (hn : n ≤ 65536) :
    Calls Try.prog 7 #[.slice a n c] w fun e w' => e = .returned (.bool true) ∧ w' = w := by
  go_enter Try.func7, Try.ntmps7
  go_wp2
  go_ret
  exact ⟨rfl, rfl⟩
theorem zzBytes7_any (a : Option Addr) (n c : Nat) (w : World) :
    Calls Try.prog 7 #[.slice a n c] w fun e w' => ∃ B, e = .returned (.bool B) ∧ w' = w := by
  by_cases h1 : n ≤ 1048576
  · go_enter Try.func7, Try.ntmps7
    go_wp2
    go_ret
    exact ⟨_, rfl, rfl⟩
  · have h1' : (1048576 : Int) < (n : Int) := by omega
    go_enter Try.func7, Try.ntmps7
    go_wp2
    go_ret
    exact ⟨_, rfl, rfl⟩

theorem int_bit (x : Nat) : (((x % 2 : Nat) : Int) == 1) = decide (x % 2 = 1) := by
  rcases Nat.mod_two_eq_zero_or_one x with h | h <;> rw [h] <;> rfl
theorem u8_bit (d t : Nat) (hd : d < 256) : (bits .and .u8 ((d : Int) / 2 ^ t) 1 == 1) = d.testBit t := by
  have h0 : d / 2 ^ t < 256 := Nat.lt_of_le_of_lt (Nat.div_le_self _ _) hd
  have h1 : ((d : Int) / 2 ^ t) = ((d / 2 ^ t : Nat) : Int) := by simp
  have h2 : bits .and .u8 ((d / 2 ^ t : Nat) : Int) 1 = ((d / 2 ^ t &&& 1 : Nat) : Int) := u8_and_nat _ 1 h0 (by omega)
  rw [h1, h2, nat_mask1, int_bit, Nat.testBit_eq_decide_div_mod_eq]
theorem u32_bit (d t : Nat) (hd : d < 4294967296) : (bits .and .u32 ((d : Int) / 2 ^ t) 1 == 1) = d.testBit t := by
  have h0 : d / 2 ^ t < 4294967296 := Nat.lt_of_le_of_lt (Nat.div_le_self _ _) hd
  have h1 : ((d : Int) / 2 ^ t) = ((d / 2 ^ t : Nat) : Int) := by simp
  have h2 : bits .and .u32 ((d / 2 ^ t : Nat) : Int) 1 = ((d / 2 ^ t &&& 1 : Nat) : Int) := u32_and_nat _ 1 h0 (by omega)
  rw [h1, h2, nat_mask1, int_bit, Nat.testBit_eq_decide_div_mod_eq]
theorem poly_bit (j : Nat) : (bits .and .u32 ((69665 : Int) / 2 ^ (16 - j)) 1 == 1) = pb j := u32_bit 69665 (16 - j) (by omega)

theorem fill_step (ds : List Nat) (k j : Nat) (hk : k < ds.length) (hj : j < 8) (x : Nat) :
    (if x = 8 * k + j then ds[k].testBit (7 - j) else (decide (x < 8 * k + j) && mb ds x)) = (decide (x < 8 * k + (j + 1)) && mb ds x) := by
  by_cases e : x = 8 * k + j
  · subst e
    rw [if_pos rfl, show decide (8 * k + j < 8 * k + (j + 1)) = true by simp]
    unfold mb
    rw [show (8 * k + j) / 8 = k by omega, show (8 * k + j) % 8 = j by omega, List.getD_eq_getElem?_getD, List.getElem?_eq_getElem hk, Option.getD_some]
    simp
  · rw [if_neg e]
    congr 1
    rw [decide_eq_decide]
    omega

theorem bin_hit (f : Nat → Bool) (p j x : Nat) (h : pb j = true) : (if x = p + j then !Bin f p j (p + j) else Bin f p j x) = Bin f p (j + 1) x := by
  unfold Bin
  by_cases e : x = p + j
  · subst e
    rw [if_pos rfl, show decide (p + j < p + j) = false by simp, show decide (p + j < p + (j + 1)) = true by simp, show decide (p ≤ p + j) = true by simp, show p + j - p = j by omega, h]
    simp
  · rw [if_neg e, show decide (x < p + (j + 1)) = decide (x < p + j) by rw [decide_eq_decide]; omega]
theorem bin_miss (f : Nat → Bool) (p j x : Nat) (h : pb j = false) : Bin f p j x = Bin f p (j + 1) x := by
  unfold Bin
  by_cases e : x = p + j
  · subst e
    rw [show decide (p + j < p + j) = false by simp, show p + j - p = j by omega, h]
    simp
  · rw [show decide (x < p + (j + 1)) = decide (x < p + j) by rw [decide_eq_decide]; omega]
theorem bin_zero (f : Nat → Bool) (p x : Nat) : Bin f p 0 x = f x := by
  unfold Bin
  rw [if_neg]
  simp
  omega

set_option maxRecDepth 20000 in
set_option maxHeartbeats 2000000 in
theorem fn4_yes (a : Option Addr) (c : Nat) (ds : List Nat) (w : World) (hr : Bt w a ds) (hd : ∀ k (h : k < ds.length), ds[k] < 256) (hn : ds.length ≤ 65536) :
    Calls Try.prog 4 #[.slice a ds.length c] w fun e w' => e = .returned (.bool true) ∧ Below w.heap.size w w' := by
  obtain ⟨i0, hi0, hz0, hz1, hz2⟩ := info_parts Try.info4
  have hd1 : decide ((65536 : Int) < (ds.length : Int)) = false := by simp; omega
  go_enter Try.func4, Try.ntmps4
  go_wp2_with fail
  refine (zzBytes7 _ _ _ _ hn).mono ?_
  rintro e w' ⟨rfl, rfl⟩
  go_wp2_with fail
  refine (zzMakeTable_any _).mono ?_
  rintro e w1 ⟨rfl, hb1, hlt1, htab⟩
  have hr1 := hr.below hb1
  go_wp2_with fail
  refine (tcrc_any w'.heap.size 0 ds.length c a ds _ rfl (by omega) hr1 hd hn htab).mono ?_
  rintro e w2 ⟨rfl, m2, rfl⟩
  have hcl := crcs_lt ds 0 (by omega)
  go_upto_block 0 with (at_make; refine wpList_make_full _ rfl _ _ 32 rfl w1.heap.size 4 i0 _ 1 Try.underlying32 hi0 hz0 hz1 .i64 .i64 _ _ (ds.length * 8 + 16) rfl rfl (by simp) (by simp) (by rw [hz2]; omega) (by unfold maxLen; omega) (by simp) ?_; intro w3 hown3 hgrow3)
  have hbr0 : BR w3 w1.heap.size (ds.length * 8 + 16) (fun _ => false) := br_made hown3
  have hbe0 : Below w1.heap.size w1 w3 := ⟨hgrow3.os, hgrow3.tape, hgrow3.output, hgrow3.size, fun k hk => hgrow3.block k hk (by simp)⟩
  obtain ⟨bd, od, had, hatd, hbd⟩ := hr1.open
  clear hown3 hgrow3
  generalize hBB : w1.heap.size = B at *
  have HBB : Hid (w1.heap.size = B) := hBB
  clear hBB
  have Hcrc : Hid (crcs 0 ds = crcs 0 ds) := rfl
  have htB : w'.heap.size < B := hlt1
  go_cut [7] (fun _ wr => BR wr B (ds.length * 8 + 16) (mb ds) ∧ Below B w1 wr)
  case first =>
    go_wp2
    go_loopg [7] ds.length (fun gk kv wr => ∃ k : Nat, Hid (k + gk = ds.length) ∧ kv = .int .i64 k ∧ BR wr B (ds.length * 8 + 16) (fun x => decide (x < 8 * k) && mb ds x) ∧ Below B w1 wr)
    case atStart => exact ⟨0, Nat.zero_add _, rfl, hbr0.congr (fun k _ => by simp), hbe0⟩
    case round =>
      obtain ⟨k, hk, rfl, hbr, hbe⟩ := hrel
      by_cases hlt : k < ds.length
      · obtain rfl := had (by omega)
        have hbd' := hbd (by omega)
        go_wp2
        go_loopg [8] 8 (fun gk jv wr => ∃ j : Nat, Hid (j + gk = 8) ∧ jv = .int .i64 j ∧ BR wr B (ds.length * 8 + 16) (fun x => decide (x < 8 * k + j) && mb ds x) ∧ Below B w1 wr)
        case atStart => exact ⟨0, rfl, rfl, hbr, hbe⟩
        case round =>
          obtain ⟨j, hj, rfl, hbr, hbe⟩ := hrel
          by_cases hjl : j < 8
          · have e0 := (hatd.below hbe hbd') k hlt
            have hdk := hd k hlt
            have hx : 8 * k + j < ds.length * 8 + 16 := by omega
            have c0 := hbr.2 (8 * k + j) hx
            have f0 := hbr.1.frozen (8 * k + j)
            have hkI : (k : Int) < (ds.length : Int) := by omega
            have hjI : (j : Int) < 8 := by omega
            have hxI : 8 * (k : Int) + (j : Int) < (ds.length : Int) * 8 + 16 := by omega
            have hv := u8_bit ds[k] (7 - j) hdk
            go_wp2
            go_roundg (8 - (j + 1))
            case measure => have := hj.out; omega
            case rel => exact ⟨j + 1, by have := hj.out; show _ = _; omega, by go_num, (hbr.set (8 * k + j) _ hx).congr (fun x _ => fill_step ds k j hlt hjl x), hbe.setCell (Nat.le_refl _) _⟩
          · have hje : j = 8 := by have := hj.out; omega
            subst hje
            go_wp2
            go_roundg (ds.length - (k + 1))
            case measure => have := hk.out; omega
            case rel => exact ⟨k + 1, by have := hk.out; show _ = _; omega, by go_num, hbr.congr (fun x _ => by rw [show 8 * k + 8 = 8 * (k + 1) by omega]), hbe⟩
      · have hke : k = ds.length := by have := hk.out; omega
        subst hke
        go_wp2
        go_meet
        case rel =>
          refine ⟨hbr.congr (fun x _ => ?_), hbe⟩
          by_cases e : x < 8 * ds.length
          · simp [e]
          · rw [mb_end ds x (by omega)]; simp
  case rest =>
    obtain ⟨hbr1, hbe1⟩ := hcut
    clear hbr0 hbe0
    go_upto_block 4 with fail
    go_cut [9] (fun _ wr => BR wr B (ds.length * 8 + 16) (Bd ds (8 * ds.length)) ∧ Below B w1 wr)
    case first =>
      go_wp2
      go_loopg [9] (8 * ds.length) (fun gk pv wr => ∃ p : Nat, Hid (p + gk = 8 * ds.length) ∧ pv = .int .i64 p ∧ BR wr B (ds.length * 8 + 16) (Bd ds p) ∧ Below B w1 wr)
      case atStart => exact ⟨0, Nat.zero_add _, rfl, hbr1, hbe1⟩
      case round =>
        obtain ⟨p, hp, rfl, hbr, hbe⟩ := hrel
        by_cases hlt : p < 8 * ds.length
        · have hpI : (p : Int) + 16 < (ds.length : Int) * 8 + 16 := by omega
          have hpJ : (p : Int) < (ds.length : Int) * 8 + 16 := by omega
          have c0 := hbr.2 p (by omega)
          cases hbp : Bd ds p p with
          | false =>
            rw [hbp] at c0
            have HB : Hid (Bd ds (p + 1) = Bd ds p) := by show _ = _; rw [Bd, hbp]; rfl
            clear hbp
            go_wp2
            go_roundg (8 * ds.length - (p + 1))
            case measure => have := hp.out; omega
            case rel => exact ⟨p + 1, by have := hp.out; show _ = _; omega, by go_num, by rw [HB.out]; exact hbr, hbe⟩
          | true =>
            rw [hbp] at c0
            have HB : Hid (Bd ds (p + 1) = Bin (Bd ds p) p 17) := by show _ = _; rw [Bd, hbp]; rfl
            clear hbp
            go_wp2
            go_loopg [10] 17 (fun gk jv wr => ∃ j : Nat, Hid (j + gk = 17) ∧ jv = .int .i64 j ∧ BR wr B (ds.length * 8 + 16) (Bin (Bd ds p) p j) ∧ Below B w1 wr)
            case atStart => exact ⟨0, rfl, rfl, hbr.congr (fun x _ => (bin_zero _ _ x).symm), hbe⟩
            case round =>
              obtain ⟨j, hj, rfl, hbr, hbe⟩ := hrel
              by_cases hjl : j < 17
              · have hjI : (j : Int) ≤ 16 := by omega
                have hx : p + j < ds.length * 8 + 16 := by omega
                have hxI : (p : Int) + (j : Int) < (ds.length : Int) * 8 + 16 := by omega
                have d0 := hbr.2 (p + j) hx
                have f0 := hbr.1.frozen (p + j)
                have hpb := poly_bit j
                cases hpj : pb j with
                | true =>
                  rw [hpj] at hpb
                  have HS : Hid (∀ x, (if x = p + j then !Bin (Bd ds p) p j (p + j) else Bin (Bd ds p) p j x) = Bin (Bd ds p) p (j + 1) x) := fun x => bin_hit (Bd ds p) p j x hpj
                  clear hpj
                  go_wp2
                  go_roundg (17 - (j + 1))
                  case measure => have := hj.out; omega
                  case rel => exact ⟨j + 1, by have := hj.out; show _ = _; omega, by go_num, (hbr.set (p + j) _ hx).congr (fun x _ => HS.out x), hbe.setCell (Nat.le_refl _) _⟩
                | false =>
                  rw [hpj] at hpb
                  have HS : Hid (∀ x, Bin (Bd ds p) p j x = Bin (Bd ds p) p (j + 1) x) := fun x => bin_miss (Bd ds p) p j x hpj
                  clear hpj
                  go_wp2
                  go_roundg (17 - (j + 1))
                  case measure => have := hj.out; omega
                  case rel => exact ⟨j + 1, by have := hj.out; show _ = _; omega, by go_num, hbr.congr (fun x _ => HS.out x), hbe⟩
              · have hje : j = 17 := by have := hj.out; omega
                subst hje
                go_wp2
                go_roundg (8 * ds.length - (p + 1))
                case measure => have := hp.out; omega
                case rel => exact ⟨p + 1, by have := hp.out; show _ = _; omega, by go_num, by rw [HB.out]; exact hbr, hbe⟩
        · have hpe : p = 8 * ds.length := by have := hp.out; omega
          subst hpe
          go_wp2
          go_meet
          case rel => exact ⟨hbr, hbe⟩
    case rest =>
      obtain ⟨hbr2, hbe2⟩ := hcut
      clear hbr1 hbe1
      go_upto_block 8 with fail
      go_cut [11] (fun rv wr => rv = .int .u16 (crcs 0 ds : Nat) ∧ wr = wc)
      case first =>
        have Hrem : Hid (remB (Bd ds (8 * ds.length)) (8 * ds.length) 16 = crcs 0 ds) := rem_crc ds hd
        go_wp2
        go_loopg [11, 12] 16 (fun gk rv jv wr => ∃ j : Nat, Hid (j + gk = 16) ∧ rv = .int .u16 (remB (Bd ds (8 * ds.length)) (8 * ds.length) j : Nat) ∧ jv = .int .i64 j ∧ wr = wc)
        case atStart => exact ⟨0, rfl, rfl, rfl, rfl⟩
        case round =>
          obtain ⟨j, hj, rfl, rfl, rfl⟩ := hrel
          by_cases hjl : j < 16
          · have hjI : (j : Int) < 16 := by omega
            have d0 := hbr2.2 (8 * ds.length + j) (by omega)
            rw [show 8 * ds.length + j = ds.length * 8 + j by omega] at d0
            have hxl : remB (Bd ds (8 * ds.length)) (8 * ds.length) j < 32768 := by
              have h5 := remB_lt (Bd ds (8 * ds.length)) (8 * ds.length) j
              have h6 : 2 ^ j ≤ 2 ^ 15 := Nat.pow_le_pow_right (by omega) (by omega)
              omega
            have HS : Hid (remB (Bd ds (8 * ds.length)) (8 * ds.length) (j + 1) = if Bd ds (8 * ds.length) (ds.length * 8 + j) then (remB (Bd ds (8 * ds.length)) (8 * ds.length) j * 2) ||| 1 else remB (Bd ds (8 * ds.length)) (8 * ds.length) j * 2) := by
              show _ = _
              rw [remB, show 8 * ds.length + j = ds.length * 8 + j by omega]
            generalize remB (Bd ds (8 * ds.length)) (8 * ds.length) j = x at *
            have hxI : (ds.length : Int) * 8 + (j : Int) < (ds.length : Int) * 8 + 16 := by omega
            have HO : Hid (bits .or .u16 ((x : Int) * 2) 1 = ((x * 2 ||| 1 : Nat) : Int)) := u16_or_nat (x * 2) 1 (by omega) (by omega)
            cases hbj : Bd ds (8 * ds.length) (ds.length * 8 + j) with
            | true =>
              rw [hbj] at d0 HS
              clear hbj
              go_wp2
              go_roundg (16 - (j + 1))
              case measure => have := hj.out; omega
              case rel => exact ⟨j + 1, by have := hj.out; show _ = _; omega, by rw [HS.out, HO.out]; rfl, by go_num, rfl⟩
            | false =>
              rw [hbj] at d0 HS
              clear hbj
              go_wp2
              go_roundg (16 - (j + 1))
              case measure => have := hj.out; omega
              case rel => exact ⟨j + 1, by have := hj.out; show _ = _; omega, by rw [HS.out]; go_num, by go_num, rfl⟩
          · have hje : j = 16 := by have := hj.out; omega
            subst hje
            rw [Hrem.out]
            go_wp2
            go_meet
            case rel => exact ⟨rfl, rfl⟩
      case rest =>
        obtain ⟨rfl, rfl⟩ := hcut
        have htab2 : TabAt wc w'.heap.size 256 := fun k hk => (hbe2.cell (p := ⟨w'.heap.size, k, none⟩) htB).trans (htab k hk)
        generalize crcs 0 ds = x at *
        go_wp2_with fail
        have hsz : w'.heap.size < wc.heap.size := Nat.lt_of_lt_of_le htB (by rw [← HBB.out]; exact hbe2.size)
        have hbA : Below wc.heap.size wc (wc.alloc (.cells #[.int .u8 ((x : Int) / 256), .int .u8 ((x : Int) % 256)] 5)) := Below.alloc (Below.refl _ _) (Nat.le_refl _) _
        refine (tcrc_any w'.heap.size x 2 2 (some ⟨wc.heap.size, 0, none⟩) [x / 256, x % 256] _ rfl hcl (.inr ⟨wc.heap.size, 0, rfl, by simp, ?cells⟩) ?lts (by simp) (fun k hk => (hbA.cell (p := ⟨w'.heap.size, k, none⟩) hsz).trans (htab2 k hk))).mono ?_
        case cells =>
          intro k hk
          match k, hk with
          | 0, _ => rw [World.cell?_alloc_new]; simp
          | 1, _ => rw [World.cell?_alloc_new]; simp
        case lts =>
          intro k hk
          match k, hk with
          | 0, _ => simp; omega
          | 1, _ => simp; omega
        rintro e w9 ⟨rfl, m9, rfl⟩
        rw [tail_zero]
        go_wp2
        go_ret
        exact ⟨rfl, hb1.trans ((hbe2.mono (Nat.le_of_lt htB)).trans ((hbA.mono (Nat.le_of_lt hsz)).trans ⟨rfl, rfl, rfl, Nat.le_refl _, fun _ _ => rfl⟩))⟩

theorem fn4_big (a : Option Addr) (n c : Nat) (w : World) (hn : 65536 < n) :
    Calls Try.prog 4 #[.slice a n c] w fun e w' => e = .returned (.bool true) ∧ Below w.heap.size w w' := by
  have hd1 : decide ((65536 : Int) < (n : Int)) = true := by simp; omega
  have hd2 : (65536 : Int) < (n : Int) := by omega
  go_enter Try.func4, Try.ntmps4
  go_wp2_with fail
  refine (zzBytes7_any _ _ _ _).mono ?_
  rintro e w' ⟨B, rfl, rfl⟩
  cases B
  · go_wp2
    go_ret
    exact ⟨rfl, Below.refl _ _⟩
  · go_wp2
    go_ret
    exact ⟨rfl, Below.refl _ _⟩

theorem fn4_any (a : Option Addr) (n c : Nat) (ds : List Nat) (w : World) (hl : n = ds.length) (hr : Bt w a ds) (hd : ∀ k (h : k < ds.length), ds[k] < 256) :
    Calls Try.prog 4 #[.slice a n c] w fun e w' => e = .returned (.bool true) ∧ Below w.heap.size w w' := by
  subst hl
  by_cases h : ds.length ≤ 65536
  · exact fn4_yes a c ds w hr hd h
  · exact fn4_big a ds.length c w (by omega)
end Go.Proofs.Qxb6617869a
