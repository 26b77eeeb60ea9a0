import Derived.Test.Qxb6617869aTable
import Derived.OpenShut
import Derived.ShutString
namespace Go.Proofs.Qxb6617869a
open Go.ChangeShapes Go.WideShapes Go.ChangeAt Go.RowKit

theorem clmul_poly (q : Nat) (w : World) (h2 : q < 4294967296) :
    Calls Try.prog 6 #[.int .u32 q, .int .u32 69665] w fun e w' => e = .returned (.int .u32 (clm q 69665 8 : Nat)) ∧ w' = w :=
  clmul_any q 69665 w h2 (by omega)

theorem tab_lt (i : Nat) : tab i < 65536 := it_lt _ (by omega) 8

set_option maxRecDepth 20000 in
set_option maxHeartbeats 1000000 in
theorem fn3_any (w : World) :
    Calls Try.prog 3 #[] w fun e w' => e = .returned (.bool true) ∧ Below w.heap.size w w' := by
  go_enter Try.func3, Try.ntmps3
  go_wp2_with fail
  refine (zzMakeTable_any _).mono ?_
  rintro e w1 ⟨rfl, hb1, hlt1, htab⟩
  have Htab : Hid (TabAt w1 w.heap.size 256) := htab
  go_wp2

  go_loopg [2] 256 (fun gk iv wr => ∃ i : Nat, Hid (i + gk = 256) ∧ iv = .int .i64 i ∧ wr = w1)
  case atStart => exact ⟨0, rfl, rfl, rfl⟩
  case round =>
    obtain ⟨i, hi, rfl, rfl⟩ := hrel
    by_cases hlt : i < 256
    · have hiI : (i : Int) < 256 := by omega
      have d0 := Htab.out i hlt
      have htl := tab_lt i
      have hq := quo_ok i hlt
      have HX0 : bits .xor .u32 ((i : Int) * 65536) ((tab i : Nat) : Int) = (((i * 65536) ^^^ tab i : Nat) : Int) := u32_xor_nat (i * 65536) (tab i) (by omega) (by omega)
      generalize (i * 65536) ^^^ tab i = T at *
      generalize tab i = ti at *
      obtain ⟨q0, hq0, hq1⟩ : ∃ q, q < 256 ∧ clm q 69665 8 = T := ⟨_, hq.1, hq.2⟩
      have HQ : Hid (clm q0 69665 8 = T) := hq1
      clear hq hq1
      go_wp2

      go_loopg [4, 5] 256 (fun gk fv qv wx => ∃ q : Nat, Hid (q + gk = 256) ∧ q ≤ q0 ∧ fv = .bool false ∧ qv = .int .i64 q ∧ wx = wr)
      case atStart => exact ⟨0, rfl, Nat.zero_le _, rfl, rfl, rfl⟩
      case round =>
        obtain ⟨q, hq, hqq, rfl, rfl, rfl⟩ := hrel
        have hqI : (q : Int) < 256 := by omega
        by_cases hm : clm q 69665 8 = T
        · have HM : Hid (clm q 69665 8 = T) := hm
          clear hm
          go_wp2_with fail
          refine (clmul_poly q _ (by omega)).mono ?_
          rintro e w' ⟨rfl, rfl⟩
          rw [HM.out]
          go_wp2
          go_roundg (256 - (i + 1))
          case measure => have := hi.out; omega
          case rel => exact ⟨i + 1, by have := hi.out; show _ = _; omega, by go_num, rfl⟩
        · have hne : q ≠ q0 := fun e => hm (by rw [e]; exact HQ.out)
          have hm1 : (clm q 69665 8 == T) = false := by simpa using hm
          have hm2 : (((clm q 69665 8 : Nat) : Int) == (T : Int)) = false := by simp; omega
          go_wp2_with fail
          refine (clmul_poly q _ (by omega)).mono ?_
          rintro e w' ⟨rfl, rfl⟩
          go_wp2
          go_roundg (256 - (q + 1))
          case measure => have := hq.out; omega
          case rel => exact ⟨q + 1, by have := hq.out; show _ = _; omega, by omega, rfl, by go_num, rfl⟩
    · go_wp2
      go_ret
      exact ⟨rfl, hb1⟩
end Go.Proofs.Qxb6617869a
