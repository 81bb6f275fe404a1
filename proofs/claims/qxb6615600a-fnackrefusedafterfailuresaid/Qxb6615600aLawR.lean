/-
  THE WALK OF FnAckRefusedAfterFailure.
-/
import Derived.Test.Qxb6615600aFail
namespace Go.Proofs.Qxb6615600a
open Go.ChangeShapes Go.WideShapes Go.ChangeAt Go.RowKit

set_option maxHeartbeats 4000000 in
theorem lawR_high (a0 a1 a2 a3 a4 a5 a6 a7 a8 : Int) (w : World) (hn : a0 < a3) :
    Calls Try.prog 4 #[.int .u64 a0, .int .u64 a1, .int .u64 a2, .int .u64 a3, .int .u64 a4, .int .u64 a5, .int .u64 a6, .int .u64 a7, .int .u64 a8] w fun x w' => x = .returned (.bool true) ∧ Below w.heap.size w w' := by
  go_enter Try.func4, Try.ntmps4
  go_wp2_with fail
  refine (new_any a0 a1 a2 w).mono ?_
  rintro x w1 ⟨r, c, rfl, ha1, hb1⟩
  have HA1 : Hid _ := ha1
  have HB1 : Hid _ := hb1
  clear ha1 hb1
  go_wp2_with fail
  refine (zack_high w.heap.size r c a0 a1 a2 false a3 a4 a5 w1 HA1.out (by omega)).mono ?_
  rintro x w2 ⟨rfl, ha2, hb2⟩
  have HA2 : Hid _ := ha2
  have HB2 : Hid _ := HB1.out.trans hb2
  clear ha2 hb2 HA1 HB1
  go_wp2_with fail
  refine (zfail_any w.heap.size r c a3 a4 a5 .nilIface true w2 HA2.out).mono ?_
  rintro x w3 ⟨rfl, p, ha3, hb3⟩
  have HA3 : Hid _ := ha3
  have HB3 : Hid _ := HB2.out.trans hb3
  clear ha3 hb3 HA2 HB2
  go_wp2_with fail
  refine (zack_bad w.heap.size r c a3 a4 a5 true 54 _ a6 a7 a8 w3 HA3.out).mono ?_
  rintro x w4 ⟨rfl, ha4, hb4⟩
  have HA4 : Hid _ := ha4
  have HB4 : Hid _ := HB3.out.trans hb4
  clear ha4 hb4 HA3 HB3
  go_wp2_with fail
  refine (zack_bad w.heap.size r c a3 a4 a5 true 54 _ a6 a7 a8 w4 HA4.out).mono ?_
  rintro x w5 ⟨rfl, ha5, hb5⟩
  have HA5 : Hid _ := ha5
  have HB5 : Hid _ := HB4.out.trans hb5
  clear ha5 hb5 HA4 HB4
  go_wp2_with fail
  refine (in_any w.heap.size r c a3 a4 a5 _ true w5 HA5.out).mono ?_
  rintro x w6 ⟨rfl, q, rfl⟩
  have HA6 : Hid (Acks (w5.drewN q) w.heap.size r c a3 a4 a5 (.iface 54 (.pointer (some p))) true) := HA5.out.of rfl rfl
  have HB6 : Hid (Below w.heap.size w (w5.drewN q)) := ⟨HB5.out.os, HB5.out.tape, HB5.out.output, HB5.out.size, HB5.out.block⟩
  generalize w5.drewN q = W at *
  clear HA5 HB5
  go_wp2_with (first | (go_at_call 9; refine (next_any w.heap.size r c a3 a4 a5 _ true _ HA6.out).mono ?_; rintro x w7 ⟨rfl, rfl⟩) | (go_at_call 10; refine (kicks_any w.heap.size r c a3 a4 a5 _ true _ HA6.out).mono ?_; rintro x w7 ⟨rfl, rfl⟩))
  go_ret
  exact ⟨rfl, HB6.out⟩

set_option maxHeartbeats 4000000 in
theorem lawR_low (a0 a1 a2 a3 a4 a5 a6 a7 a8 : Int) (w : World) (hn : ¬ a0 < a3) :
    Calls Try.prog 4 #[.int .u64 a0, .int .u64 a1, .int .u64 a2, .int .u64 a3, .int .u64 a4, .int .u64 a5, .int .u64 a6, .int .u64 a7, .int .u64 a8] w fun x w' => x = .returned (.bool true) ∧ Below w.heap.size w w' := by
  go_enter Try.func4, Try.ntmps4
  go_wp2_with fail
  refine (new_any a0 a1 a2 w).mono ?_
  rintro x w1 ⟨r, c, rfl, ha1, hb1⟩
  have HA1 : Hid _ := ha1
  have HB1 : Hid _ := hb1
  clear ha1 hb1
  go_wp2_with fail
  refine (zack_low w.heap.size r c a0 a1 a2 false a3 a4 a5 w1 HA1.out (by omega)).mono ?_
  rintro x w2 ⟨rfl, ha2, hb2⟩
  have HA2 : Hid _ := ha2
  have HB2 : Hid _ := HB1.out.trans hb2
  clear ha2 hb2 HA1 HB1
  go_wp2_with fail
  refine (zfail_any w.heap.size r c a0 a1 a2 .nilIface false w2 HA2.out).mono ?_
  rintro x w3 ⟨rfl, p, ha3, hb3⟩
  have HA3 : Hid _ := ha3
  have HB3 : Hid _ := HB2.out.trans hb3
  clear ha3 hb3 HA2 HB2
  go_wp2_with fail
  refine (zack_bad w.heap.size r c a0 a1 a2 false 54 _ a6 a7 a8 w3 HA3.out).mono ?_
  rintro x w4 ⟨rfl, ha4, hb4⟩
  have HA4 : Hid _ := ha4
  have HB4 : Hid _ := HB3.out.trans hb4
  clear ha4 hb4 HA3 HB3
  go_wp2_with fail
  refine (zack_bad w.heap.size r c a0 a1 a2 false 54 _ a6 a7 a8 w4 HA4.out).mono ?_
  rintro x w5 ⟨rfl, ha5, hb5⟩
  have HA5 : Hid _ := ha5
  have HB5 : Hid _ := HB4.out.trans hb5
  clear ha5 hb5 HA4 HB4
  go_wp2_with fail
  refine (in_any w.heap.size r c a0 a1 a2 _ false w5 HA5.out).mono ?_
  rintro x w6 ⟨rfl, q, rfl⟩
  have HA6 : Hid (Acks (w5.drewN q) w.heap.size r c a0 a1 a2 (.iface 54 (.pointer (some p))) false) := HA5.out.of rfl rfl
  have HB6 : Hid (Below w.heap.size w (w5.drewN q)) := ⟨HB5.out.os, HB5.out.tape, HB5.out.output, HB5.out.size, HB5.out.block⟩
  generalize w5.drewN q = W at *
  clear HA5 HB5
  go_wp2_with (first | (go_at_call 9; refine (next_any w.heap.size r c a0 a1 a2 _ false _ HA6.out).mono ?_; rintro x w7 ⟨rfl, rfl⟩) | (go_at_call 10; refine (kicks_any w.heap.size r c a0 a1 a2 _ false _ HA6.out).mono ?_; rintro x w7 ⟨rfl, rfl⟩))
  go_ret
  exact ⟨rfl, HB6.out⟩

end Go.Proofs.Qxb6615600a
