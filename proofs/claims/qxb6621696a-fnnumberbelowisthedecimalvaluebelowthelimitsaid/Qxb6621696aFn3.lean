import Derived.Test.Qxb6621696aReadings
namespace Go.Proofs.Qxb6621696a
open Go.ChangeShapes Go.WideShapes Go.ChangeAt Go.RowKit

theorem zzBytes_any (s : ByteArray) (x : Int) (w : World) (hs : s.size ≤ 9223372036854775807) :
    Calls Try.prog 6 #[.string s, .int .u64 x] w fun e w' => ∃ B, e = .returned (.bool B) ∧ w' = w := by
  by_cases h1 : s.size ≤ 1048576
  · go_enter Try.func6, Try.ntmps6
    go_wp2
    go_ret
    exact ⟨_, rfl, rfl⟩
  · have h1' : (1048576 : Int) < (s.size : Int) := by omega
    go_enter Try.func6, Try.ntmps6
    go_wp2
    go_ret
    exact ⟨_, rfl, rfl⟩

set_option maxRecDepth 20000 in
set_option maxHeartbeats 2000000 in
theorem fn3_any (s : ByteArray) (lim : Nat) (w : World) (hm : s.size ≤ 9223372036854775807) :
    Calls Try.prog 3 #[.string s, .int .u64 lim] w fun e w' => e = .returned (.bool true) ∧ Below w.heap.size w w' := by
  go_enter Try.func3, Try.ntmps3
  go_wp2_with fail
  refine (zzBytes_any s lim _ hm).mono ?_
  rintro e w' ⟨B, rfl, rfl⟩
  cases B with
  | false =>
    go_wp2
    go_ret
    exact ⟨rfl, Below.refl _ _⟩
  | true =>
    by_cases hs : s.size ≤ 65536
    · by_cases hL : lim ≤ 1844674407370955161
      · go_wp2_with fail
        refine (zzNumberBelow_any s lim _ hs hL).mono ?_
        rintro e w1 ⟨rfl, rfl⟩
        go_wp2_with fail
        refine (decValue_any s lim _ hs hL).mono ?_
        rintro e w2 ⟨rfl, hb2⟩
        cases hok : okD (bs s) lim with
        | false =>
          go_wp2
          go_ret
          exact ⟨rfl, hb2⟩
        | true =>
          have HK : Hid (bs s ≠ [] ∧ AD (bs s) ∧ V (bs s) < lim) := by
            show bs s ≠ [] ∧ AD (bs s) ∧ V (bs s) < lim
            unfold okD at hok
            exact of_decide_eq_true hok
          have h0 : 0 < s.size := by
            rw [← bs_length]
            exact List.length_pos_iff.mpr HK.out.1
          have hvv : valD (bs s) lim = V (bs s) := valD_yes hok
          have hvl : V (bs s) < 18446744073709551616 := by have := HK.out.2.2; omega
          rw [hvv]
          clear hok hvv
          go_wp2_with fail
          refine (itoa_any (V (bs s)) _ hvl).mono ?_
          rintro e w3 ⟨c, rfl, hb3, _, hcn, hcv⟩
          have HC : Hid (Cn (bs c) ∧ V (bs c) = V (bs s)) := ⟨hcn, hcv⟩
          clear hcn hcv
          go_wp2_with fail
          refine (canon_any s _ hs h0 HK.out.2.1).mono ?_
          rintro e w4 ⟨d, rfl, rfl, _, hdn, hdv⟩
          obtain rfl : c = d := bs_inj (cn_inj HC.out.1 hdn (HC.out.2.trans hdv.symm))
          clear hdn hdv
          go_wp2
          go_ret
          exact ⟨rfl, hb2.trans (hb3.mono hb2.size)⟩
      · have hLI : (1844674407370955161 : Int) < (lim : Int) := by omega
        go_wp2
        go_ret
        exact ⟨rfl, Below.refl _ _⟩
    · have hsI : (65536 : Int) < (s.size : Int) := by omega
      go_wp2
      go_ret
      exact ⟨rfl, Below.refl _ _⟩
end Go.Proofs.Qxb6621696a
