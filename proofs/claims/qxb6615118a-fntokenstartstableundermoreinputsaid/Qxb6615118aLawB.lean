/-
  THE WALK OF FnTokenStartStableUnderMoreInput.
-/
import Derived.Test.Qxb6615118aWalksF
namespace Go.Proofs.Qxb6615118a
open Go.ChangeShapes Go.WideShapes Go.ChangeAt Go.RowKit
open Plain

theorem lawB_big (a a' : Option Addr) (n c n' c' : Nat) (base f : Int) (w : World) (hm : 1048576 < n + n') :
    Calls Try.prog 4 #[.slice a n c, .slice a' n' c', .int .i64 base, .int .i64 f] w fun e w' => e = .returned (.bool true) ∧ Below w.heap.size w w' := by
  go_enter Try.func4, Try.ntmps4
  go_wp2_with (go_at_call 10; refine (bytesB_no _ _ _ _ _ _ _ _ _ hm).mono ?_; rintro e w' ⟨rfl, rfl⟩)
  go_ret
  exact ⟨rfl, Below.refl _ _⟩

theorem lawB_base (a a' : Option Addr) (n c n' c' : Nat) (base f : Int) (w : World) (hm : n + n' ≤ 1048576) (hb : base < 0) :
    Calls Try.prog 4 #[.slice a n c, .slice a' n' c', .int .i64 base, .int .i64 f] w fun e w' => e = .returned (.bool true) ∧ Below w.heap.size w w' := by
  have h1 : n ≤ 1048576 := by omega
  have h2 : n' ≤ 1048576 - n := by omega
  have h3 : (n' : Int) ≤ 1048576 - (n : Int) := by omega
  have h4 : (n' : Int) ≤ 1048576 := by omega
  go_enter Try.func4, Try.ntmps4
  go_wp2_with (go_at_call 10; refine (bytesB _ _ _ _ _ _ _ _ _ hm).mono ?_; rintro e w' ⟨rfl, rfl⟩)
  go_ret
  exact ⟨rfl, Below.refl _ _⟩

theorem lawB_base2 (a a' : Option Addr) (n c n' c' : Nat) (base f : Int) (w : World) (hm : n + n' ≤ 1048576) (hb : 0 ≤ base) (hb2 : 9223372036854775807 - ((n : Int) + (n' : Int)) < base) :
    Calls Try.prog 4 #[.slice a n c, .slice a' n' c', .int .i64 base, .int .i64 f] w fun e w' => e = .returned (.bool true) ∧ Below w.heap.size w w' := by
  have h1 : n ≤ 1048576 := by omega
  have h2 : n' ≤ 1048576 - n := by omega
  have h3 : (n' : Int) ≤ 1048576 - (n : Int) := by omega
  have h4 : (n' : Int) ≤ 1048576 := by omega
  go_enter Try.func4, Try.ntmps4
  go_wp2_with (go_at_call 10; refine (bytesB _ _ _ _ _ _ _ _ _ hm).mono ?_; rintro e w' ⟨rfl, rfl⟩)
  go_ret
  exact ⟨rfl, Below.refl _ _⟩

theorem lawB_from (a a' : Option Addr) (n c n' c' : Nat) (base f : Int) (w : World) (hm : n + n' ≤ 1048576) (hb : 0 ≤ base) (hb2 : base ≤ 9223372036854775807 - ((n : Int) + (n' : Int))) (hf : f < base) :
    Calls Try.prog 4 #[.slice a n c, .slice a' n' c', .int .i64 base, .int .i64 f] w fun e w' => e = .returned (.bool true) ∧ Below w.heap.size w w' := by
  have h1 : n ≤ 1048576 := by omega
  have h2 : n' ≤ 1048576 - n := by omega
  have h3 : (n' : Int) ≤ 1048576 - (n : Int) := by omega
  have h4 : (n' : Int) ≤ 1048576 := by omega
  go_enter Try.func4, Try.ntmps4
  go_wp2_with (go_at_call 10; refine (bytesB _ _ _ _ _ _ _ _ _ hm).mono ?_; rintro e w' ⟨rfl, rfl⟩)
  go_ret
  exact ⟨rfl, Below.refl _ _⟩

theorem lawB_from2 (a a' : Option Addr) (n c n' c' : Nat) (base f : Int) (w : World) (hm : n + n' ≤ 1048576) (hb : 0 ≤ base) (hb2 : base ≤ 9223372036854775807 - ((n : Int) + (n' : Int))) (hf : base ≤ f) (hf1 : f ≤ 9223372036854775807) (hf2 : (n : Int) < f - base) :
    Calls Try.prog 4 #[.slice a n c, .slice a' n' c', .int .i64 base, .int .i64 f] w fun e w' => e = .returned (.bool true) ∧ Below w.heap.size w w' := by
  have h1 : n ≤ 1048576 := by omega
  have h2 : n' ≤ 1048576 - n := by omega
  have h3 : (n' : Int) ≤ 1048576 - (n : Int) := by omega
  have h4 : (n' : Int) ≤ 1048576 := by omega
  go_enter Try.func4, Try.ntmps4
  go_wp2_with (go_at_call 10; refine (bytesB _ _ _ _ _ _ _ _ _ hm).mono ?_; rintro e w' ⟨rfl, rfl⟩)
  go_ret
  exact ⟨rfl, Below.refl _ _⟩


set_option maxHeartbeats 4000000 in
theorem lawB_main (a a' : Option Addr) (n c n' c' : Nat) (zs ys : List Int) (base : Int) (off : Nat) (w : World) (hm : n + n' ≤ 1048576) (hz : Has w a n zs) (h0 : a = none → n = 0 ∧ c = 0) (hz' : Has w a' n' ys) (h0' : a' = none → n' = 0 ∧ c' = 0)
    (hb : 0 ≤ base) (hb2 : base ≤ 9223372036854775807 - ((n : Int) + (n' : Int))) (hoff : off ≤ n) :
    Calls Try.prog 4 #[.slice a n c, .slice a' n' c', .int .i64 base, .int .i64 (base + off)] w fun e w' => e = .returned (.bool true) ∧ Below w.heap.size w w' := by
  have h1 : n ≤ 1048576 := by omega
  have h2 : n' ≤ 1048576 - n := by omega
  have h3 : (n' : Int) ≤ 1048576 - (n : Int) := by omega
  have h4 : (n' : Int) ≤ 1048576 := by omega
  have eo : (base + (off : Int) - base) = off := by omega
  have hoff' : (off : Int) ≤ (n : Int) := by omega
  have d1 : decide (base < 0) = false := decide_eq_false (by omega)
  have d2 : decide (base + (off : Int) < base) = false := decide_eq_false (by omega)
  have HH : Hid (Has w a n zs) := hz
  have H0 : Hid (a = none → n = 0 ∧ c = 0) := h0
  have HH' : Hid (Has w a' n' ys) := hz'
  have H0' : Hid (a' = none → n' = 0 ∧ c' = 0) := h0'
  clear hz h0 hz' h0'
  go_enter Try.func4, Try.ntmps4
  go_wp2_with (go_at_call 10; refine (bytesB _ _ _ _ _ _ _ _ _ hm).mono ?_; rintro e w0 ⟨rfl, rfl⟩)
  refine (clone_any a n c zs _ h1 HH.out H0.out).mono ?_
  rintro e w1 ⟨a1, rfl, hz1, hbel⟩
  have HZ1 : Hid (Has w1 a1 n zs) := hz1
  have HB1 : Hid (Below w0.heap.size w0 w1) := hbel
  have HH1 : Hid (Has w1 a' n' ys) := HH'.out.below hbel
  clear hz1 hbel HH HH' H0
  go_wp2_with fail
  refine (clone_any a' n' c' ys _ (by omega) HH1.out H0'.out).mono ?_
  rintro e w2 ⟨a2, rfl, hz2, hbel⟩
  have HZ2 : Hid (Has w2 a1 n zs) := HZ1.out.below hbel
  have HY2 : Hid (Has w2 a2 n' ys) := hz2
  have HB2 : Hid (Below w0.heap.size w0 w2) := HB1.out.trans (hbel.mono HB1.out.size)
  clear hz2 hbel HZ1 HH1 HB1 H0'
  have hmk := run_room (n + n') ((n : Int) + (n' : Int)) (by omega) hm
  obtain ⟨w4, hr4, ho4, hg4⟩ := run_onto _ _ _ 0 _ _ (owns_room w2 (n + n') hm) a1 n zs (HZ2.out.below ((Below.refl _ _).alloc (Nat.le_refl _) _)) (by omega)
  rw [Nat.zero_add] at hr4 ho4
  rw [List.nil_append] at ho4
  have hne1 : ∀ b off, a1 = some ⟨b, off, none⟩ → n ≠ 0 → b ≠ w2.heap.size := by
    intro b off h hn
    obtain ⟨b', off', h', hlt, _⟩ := HZ2.out.at' hn
    rw [h] at h'; cases h'; omega
  have HZ4 : Hid (Has w4 a1 n zs) := (HZ2.out.below ((Below.refl _ _).alloc (Nat.le_refl _) _)).grown' hg4 (by intro hn; obtain ⟨b, o, h, hlt, _⟩ := HZ2.out.at' hn; exact ⟨b, o, h, by omega⟩)
  have HY4 : Hid (Has w4 a2 n' ys) := (HY2.out.below ((Below.refl _ _).alloc (Nat.le_refl _) _)).grown' hg4 (by intro hn; obtain ⟨b, o, h, hlt, _⟩ := HY2.out.at' hn; exact ⟨b, o, h, by omega⟩)
  obtain ⟨w5, hr5, ho5, hg5⟩ := run_onto _ _ _ n _ _ ho4 a2 n' ys HY4.out (by omega)
  rw [← List.map_append] at ho5
  have HZ5 : Hid (Has w5 a1 n zs) := HZ4.out.grown' hg5 (by intro hn; obtain ⟨b, o, h, hlt, _⟩ := HZ2.out.at' hn; exact ⟨b, o, h, by omega⟩)
  have HJ5 : Hid (Has w5 (some ⟨w2.heap.size, 0, none⟩) (n + n') (zs ++ ys)) := Has.owned ho5
  have HB5 : Hid (Below w0.heap.size w0 w5) := ((HB2.out.alloc HB2.out.size _).grown hg4 (by have := HB2.out.size; simp; omega) (by have := HB2.out.size; intro k hk; cases hk; exact this)).grown hg5 (by have := HB2.out.size; have := hg4.size; simp at this; omega) (by have := HB2.out.size; intro k hk; cases hk; exact this)
  clear ho4 ho5 hg4 hg5 HZ2 HY2 HZ4 HY4 hne1 HB2
  have hc1 := run_cut a1 n n off off rfl (by omega)
  have hc2 := run_cut (some ⟨w2.heap.size, 0, none⟩) (n + n') (n + n') off off rfl (by omega)
  have HR4 : Hid _ := hr4
  have HR5 : Hid _ := hr5
  clear hr4 hr5
  go_wp2_with (first | (at_builtin; refine wpList_append_run _ rfl _ _ 22 22 rfl _ _ rfl rfl HR4.out ?_) | (at_builtin; refine wpList_append_run _ rfl _ _ 22 22 rfl _ _ rfl rfl HR5.out ?_))
  clear HR4 HR5 hmk
  generalize w2.heap.size = g at *
  refine (new_any a1 n n base w5).mono ?_
  rintro e w6 ⟨rfl, rfl⟩
  go_wp2_with fail
  refine (start_any w5.heap.size a1 n n zs base _ off _ h1 (Nat.le_refl _) hoff rfl (HZ5.out.below ((Below.refl _ _).alloc (Nat.le_refl _) _)) hb (by omega) (recCell1 _ _ _ _ _) (recCell2 _ _ _ _ _)).mono ?_
  rintro e w7 ⟨rfl, q, rfl⟩
  have HZ7 : Hid (Has ((w5.alloc (.cells (recCells a1 n n base) 34)).drewN q) a1 n zs) := (HZ5.out.below ((Below.refl _ _).alloc (Nat.le_refl _) _)).drewN q
  have HJ7 : Hid (Has ((w5.alloc (.cells (recCells a1 n n base) 34)).drewN q) (some ⟨g, 0, none⟩) (n + n') (zs ++ ys)) := (HJ5.out.below ((Below.refl _ _).alloc (Nat.le_refl _) _)).drewN q
  have HB7 : Hid (Below w0.heap.size w0 ((w5.alloc (.cells (recCells a1 n n base) 34)).drewN q)) := below_drewN (HB5.out.alloc HB5.out.size _) q
  generalize (w5.alloc (.cells (recCells a1 n n base) 34)).drewN q = W at *
  clear HZ5 HJ5 HB5
  obtain ⟨t, ht⟩ : ∃ t, t = tok (zs.drop off) := ⟨_, rfl⟩
  have HT : Hid (t = tok (zs.drop off)) := ht
  have htl : t ≤ n - off := by have := tok_le (zs.drop off); rw [List.length_drop, HZ7.out.len, ← ht] at this; exact this
  rw [← ht]
  clear ht
  go_wp2_with fail
  refine (new_any (some ⟨g, 0, none⟩) (n + n') (n + n') base W).mono ?_
  rintro e w8 ⟨rfl, rfl⟩
  go_wp2_with fail
  refine (start_any W.heap.size (some ⟨g, 0, none⟩) (n + n') (n + n') (zs ++ ys) base _ off _ hm (Nat.le_refl _) (by omega) rfl (HJ7.out.below ((Below.refl _ _).alloc (Nat.le_refl _) _)) hb (by omega) (recCell1 _ _ _ _ _) (recCell2 _ _ _ _ _)).mono ?_
  rintro e w9 ⟨rfl, q2, rfl⟩
  have HZ9 : Hid (Has ((W.alloc (.cells (recCells (some ⟨g, 0, none⟩) (n + n') (n + n') base) 34)).drewN q2) a1 n zs) := (HZ7.out.below ((Below.refl _ _).alloc (Nat.le_refl _) _)).drewN q2
  have HJ9 : Hid (Has ((W.alloc (.cells (recCells (some ⟨g, 0, none⟩) (n + n') (n + n') base) 34)).drewN q2) (some ⟨g, 0, none⟩) (n + n') (zs ++ ys)) := (HJ7.out.below ((Below.refl _ _).alloc (Nat.le_refl _) _)).drewN q2
  have HB9 : Hid (Below w0.heap.size w0 ((W.alloc (.cells (recCells (some ⟨g, 0, none⟩) (n + n') (n + n') base) 34)).drewN q2)) := below_drewN (HB7.out.alloc HB7.out.size _) q2
  generalize (W.alloc (.cells (recCells (some ⟨g, 0, none⟩) (n + n') (n + n') base) 34)).drewN q2 = W2 at *
  clear HZ7 HJ7 HB7
  obtain ⟨t2, ht2⟩ : ∃ t2, t2 = tok ((zs ++ ys).drop off) := ⟨_, rfl⟩
  have HT2 : Hid (t2 = tok ((zs ++ ys).drop off)) := ht2
  have htl2 : t2 ≤ n + n' - off := by have := tok_le ((zs ++ ys).drop off); rw [List.length_drop, HJ9.out.len, ← ht2] at this; exact this
  rw [← ht2]
  clear ht2
  have hdr : Hid ((zs ++ ys).drop off = zs.drop off ++ ys) := List.drop_append_of_le_length (by rw [HZ9.out.len]; exact hoff)
  have HS : Hid (t < n - off → t2 = t) := by
    intro h
    rw [HT2.out, hdr.out, tok_more _ _ (by rw [← HT.out, List.length_drop, HZ9.out.len]; exact h), HT.out]
  have HG : Hid (t = n - off → t ≤ t2) := by
    intro h
    have := tok_grows (zs.drop off) ys (by rw [← HT.out, List.length_drop, HZ9.out.len]; exact h)
    rw [HT2.out, hdr.out, HT.out]; exact this
  clear hdr
  have htl' : (t : Int) ≤ (n : Int) - (off : Int) := by omega
  have htl2' : (t2 : Int) ≤ (n : Int) + (n' : Int) - (off : Int) := by omega
  by_cases hlt : t < n - off
  · obtain rfl : t2 = t := HS.out hlt
    clear HS HG
    have hlt' : (t2 : Int) < (n : Int) - (off : Int) := by omega
    go_wp2_with (go_at_call 9; refine (gap_any _ _ _ (zs.drop off) t2 _ _ (by omega) (by omega) (HZ9.out.cut n off (by omega) (Nat.le_refl _)) (by rw [HT.out]; exact gap_tok _)).mono ?_; rintro e w10 ⟨rfl, rfl⟩)
    go_ret
    exact ⟨rfl, HB9.out⟩
  · have hge := HG.out (by omega)
    clear HS HG
    have hte : (n : Int) - (off : Int) ≤ (t : Int) := by omega
    go_wp2_with fail
    refine (gap_any _ _ _ (zs.drop off) t _ _ (by omega) (by omega) (HZ9.out.cut n off (by omega) (Nat.le_refl _)) (by rw [HT.out]; exact gap_tok _)).mono ?_
    rintro e w10 ⟨rfl, rfl⟩
    go_wp2_with fail
    refine (gap_any _ _ _ ((zs ++ ys).drop off) t2 _ _ (by omega) (by omega) (HJ9.out.cut (n + n') off (by omega) (Nat.le_refl _)) (by rw [HT2.out]; exact gap_tok _)).mono ?_
    rintro e w11 ⟨rfl, rfl⟩
    go_wp2_with fail
    go_ret
    exact ⟨rfl, HB9.out⟩
end Go.Proofs.Qxb6615118a
