/-
  THE WALK OF FnTokenStartIgnoresDroppedPrefix.
-/
import Derived.Test.Qxb6615118aWalksE
namespace Go.Proofs.Qxb6615118a
open Go.ChangeShapes Go.WideShapes Go.ChangeAt Go.RowKit
open Plain

theorem lawA_big (a : Option Addr) (n c : Nat) (base f k : Int) (w : World) (hm : 1048576 < n) :
    Calls Try.prog 3 #[.slice a n c, .int .i64 base, .int .i64 f, .int .i64 k] w fun e w' => e = .returned (.bool true) ∧ Below w.heap.size w w' := by
  go_enter Try.func3, Try.ntmps3
  go_wp2_with (go_at_call 5; refine (bytesA_no _ _ _ _ _ _ _ hm).mono ?_; rintro e w' ⟨rfl, rfl⟩)
  go_ret
  exact ⟨rfl, Below.refl _ _⟩

theorem lawA_base (a : Option Addr) (n c : Nat) (base f k : Int) (w : World) (hm : n ≤ 1048576) (hb : base < 0) :
    Calls Try.prog 3 #[.slice a n c, .int .i64 base, .int .i64 f, .int .i64 k] w fun e w' => e = .returned (.bool true) ∧ Below w.heap.size w w' := by
  go_enter Try.func3, Try.ntmps3
  go_wp2_with (go_at_call 5; refine (bytesA _ _ _ _ _ _ _ hm).mono ?_; rintro e w' ⟨rfl, rfl⟩)
  go_ret
  exact ⟨rfl, Below.refl _ _⟩

theorem lawA_base2 (a : Option Addr) (n c : Nat) (base f k : Int) (w : World) (hm : n ≤ 1048576) (hb : 0 ≤ base) (hb2 : 9223372036854775807 - (n : Int) < base) :
    Calls Try.prog 3 #[.slice a n c, .int .i64 base, .int .i64 f, .int .i64 k] w fun e w' => e = .returned (.bool true) ∧ Below w.heap.size w w' := by
  go_enter Try.func3, Try.ntmps3
  go_wp2_with (go_at_call 5; refine (bytesA _ _ _ _ _ _ _ hm).mono ?_; rintro e w' ⟨rfl, rfl⟩)
  go_ret
  exact ⟨rfl, Below.refl _ _⟩

theorem lawA_from (a : Option Addr) (n c : Nat) (base f k : Int) (w : World) (hm : n ≤ 1048576) (hb : 0 ≤ base) (hb2 : base ≤ 9223372036854775807 - (n : Int)) (hf : f < base) :
    Calls Try.prog 3 #[.slice a n c, .int .i64 base, .int .i64 f, .int .i64 k] w fun e w' => e = .returned (.bool true) ∧ Below w.heap.size w w' := by
  go_enter Try.func3, Try.ntmps3
  go_wp2_with (go_at_call 5; refine (bytesA _ _ _ _ _ _ _ hm).mono ?_; rintro e w' ⟨rfl, rfl⟩)
  go_ret
  exact ⟨rfl, Below.refl _ _⟩

theorem lawA_from2 (a : Option Addr) (n c : Nat) (base f k : Int) (w : World) (hm : n ≤ 1048576) (hb : 0 ≤ base) (hb2 : base ≤ 9223372036854775807 - (n : Int)) (hf : base ≤ f) (hf1 : f ≤ 9223372036854775807) (hf2 : (n : Int) < f - base) :
    Calls Try.prog 3 #[.slice a n c, .int .i64 base, .int .i64 f, .int .i64 k] w fun e w' => e = .returned (.bool true) ∧ Below w.heap.size w w' := by
  go_enter Try.func3, Try.ntmps3
  go_wp2_with (go_at_call 5; refine (bytesA _ _ _ _ _ _ _ hm).mono ?_; rintro e w' ⟨rfl, rfl⟩)
  go_ret
  exact ⟨rfl, Below.refl _ _⟩

theorem lawA_k (a : Option Addr) (n c : Nat) (base f k : Int) (w : World) (hm : n ≤ 1048576) (hb : 0 ≤ base) (hb2 : base ≤ 9223372036854775807 - (n : Int)) (hf : base ≤ f) (hf1 : f ≤ 9223372036854775807) (hf2 : f - base ≤ (n : Int)) (hk : k < 0) :
    Calls Try.prog 3 #[.slice a n c, .int .i64 base, .int .i64 f, .int .i64 k] w fun e w' => e = .returned (.bool true) ∧ Below w.heap.size w w' := by
  go_enter Try.func3, Try.ntmps3
  go_wp2_with (go_at_call 5; refine (bytesA _ _ _ _ _ _ _ hm).mono ?_; rintro e w' ⟨rfl, rfl⟩)
  go_ret
  exact ⟨rfl, Below.refl _ _⟩

theorem lawA_k2 (a : Option Addr) (n c : Nat) (base f k : Int) (w : World) (hm : n ≤ 1048576) (hb : 0 ≤ base) (hb2 : base ≤ 9223372036854775807 - (n : Int)) (hf : base ≤ f) (hf1 : f ≤ 9223372036854775807) (hf2 : f - base ≤ (n : Int)) (hk : 0 ≤ k) (hk2 : f - base < k) :
    Calls Try.prog 3 #[.slice a n c, .int .i64 base, .int .i64 f, .int .i64 k] w fun e w' => e = .returned (.bool true) ∧ Below w.heap.size w w' := by
  go_enter Try.func3, Try.ntmps3
  go_wp2_with (go_at_call 5; refine (bytesA _ _ _ _ _ _ _ hm).mono ?_; rintro e w' ⟨rfl, rfl⟩)
  go_ret
  exact ⟨rfl, Below.refl _ _⟩

set_option maxHeartbeats 4000000 in
theorem lawA_main (a : Option Addr) (n c : Nat) (zs : List Int) (base : Int) (off k : Nat) (w : World) (hm : n ≤ 1048576) (hz : Has w a n zs) (h0 : a = none → n = 0 ∧ c = 0)
    (hb : 0 ≤ base) (hb2 : base ≤ 9223372036854775807 - (n : Int)) (hoff : off ≤ n) (hk : k ≤ off) :
    Calls Try.prog 3 #[.slice a n c, .int .i64 base, .int .i64 (base + off), .int .i64 k] w fun e w' => e = .returned (.bool true) ∧ Below w.heap.size w w' := by
  have eo : (base + (off : Int) - base) = off := by omega
  have hoff' : (off : Int) ≤ (n : Int) := by omega
  have hk' : (k : Int) ≤ (off : Int) := by omega
  have d1 : decide (base < 0) = false := decide_eq_false (by omega)
  have d2 : decide (base + (off : Int) < base) = false := decide_eq_false (by omega)
  have d3 : decide ((k : Int) < 0) = false := decide_eq_false (by omega)
  have HH : Hid (Has w a n zs) := hz
  have H0 : Hid (a = none → n = 0 ∧ c = 0) := h0
  clear hz h0
  go_enter Try.func3, Try.ntmps3
  go_wp2_with (go_at_call 5; refine (bytesA _ _ _ _ _ _ _ hm).mono ?_; rintro e w0 ⟨rfl, rfl⟩)
  refine (clone_any a n c zs _ hm HH.out H0.out).mono ?_
  rintro e w1 ⟨a1, rfl, hz1, hbel⟩
  have HZ1 : Hid (Has w1 a1 n zs) := hz1
  have HB1 : Hid (Below w0.heap.size w0 w1) := hbel
  clear hz1 hbel
  have hck := run_cut a1 n n k k rfl (by omega)
  have hco := run_cut a1 n n off off rfl (by omega)
  go_wp2_with fail
  refine (new_any a1 n n base w1).mono ?_
  rintro e w2 ⟨rfl, rfl⟩
  go_wp2_with fail
  refine (start_any w1.heap.size a1 n n zs base _ off _ hm (Nat.le_refl _) hoff rfl (HZ1.out.below ((Below.refl _ _).alloc (Nat.le_refl _) _)) hb (by omega) (recCell1 _ _ _ _ _) (recCell2 _ _ _ _ _)).mono ?_
  rintro e w3 ⟨rfl, q, rfl⟩
  have HZ3 : Hid (Has ((w1.alloc (.cells (recCells a1 n n base) 34)).drewN q) a1 n zs) := (HZ1.out.below ((Below.refl _ _).alloc (Nat.le_refl _) _)).drewN q
  have HB3 : Hid (Below w0.heap.size w0 ((w1.alloc (.cells (recCells a1 n n base) 34)).drewN q)) := below_drewN (HB1.out.alloc (by have := HB1.out.size; omega) _) q
  generalize (w1.alloc (.cells (recCells a1 n n base) 34)).drewN q = W at *
  clear HZ1 HB1
  obtain ⟨t, ht⟩ : ∃ t, t = tok (zs.drop off) := ⟨_, rfl⟩
  have HT : Hid (t = tok (zs.drop off)) := ht
  have htl : t ≤ n - off := by have := tok_le (zs.drop off); rw [List.length_drop, HZ3.out.len, ← ht] at this; exact this
  rw [← ht]
  clear ht
  go_wp2_with fail
  refine (new_any (cutAt a1 n k) (n - k) (n - k) _ W).mono ?_
  rintro e w4 ⟨rfl, rfl⟩
  go_wp2_with fail
  refine (start_any W.heap.size (cutAt a1 n k) (n - k) (n - k) (zs.drop k) (base + k) _ (off - k) _ (by omega) (Nat.le_refl _) (by omega) (by omega) ((HZ3.out.cut n k (by omega) (Nat.le_refl _)).below ((Below.refl _ _).alloc (Nat.le_refl _) _)) (by omega) (by omega) (recCell1 _ _ _ _ _) (recCell2 _ _ _ _ _)).mono ?_
  rintro e w5 ⟨rfl, q2, rfl⟩
  rw [List.drop_drop, show k + (off - k) = off from by omega, ← HT.out]
  have HZ5 : Hid (Has ((W.alloc (.cells (recCells (cutAt a1 n k) (n - k) (n - k) (base + k)) 34)).drewN q2) a1 n zs) := (HZ3.out.below ((Below.refl _ _).alloc (Nat.le_refl _) _)).drewN q2
  have HB5 : Hid (Below w0.heap.size w0 ((W.alloc (.cells (recCells (cutAt a1 n k) (n - k) (n - k) (base + k)) 34)).drewN q2)) := below_drewN (HB3.out.alloc (by have := HB3.out.size; omega) _) q2
  generalize (W.alloc (.cells (recCells (cutAt a1 n k) (n - k) (n - k) (base + k)) 34)).drewN q2 = W2 at *
  clear HZ3 HB3
  have htl' : (t : Int) ≤ (n : Int) - (off : Int) := by omega
  go_wp2_with (go_at_call 9; refine (gap_any _ _ _ (zs.drop off) t _ _ (by omega) (by omega) (HZ5.out.cut n off (by omega) (Nat.le_refl _)) (by rw [HT.out]; exact gap_tok _)).mono ?_; rintro e w6 ⟨rfl, rfl⟩)
  go_ret
  exact ⟨rfl, HB5.out⟩
end Go.Proofs.Qxb6615118a
