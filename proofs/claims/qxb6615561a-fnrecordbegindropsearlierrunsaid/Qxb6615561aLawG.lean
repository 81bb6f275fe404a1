/-
  THE WALK OF FnRecordBeginDropsEarlierRun.
-/
import Derived.Test.Qxb6615561aLawW
import Derived.Test.Qxb6615561aBegin
namespace Go.Proofs.Qxb6615561a
open Go.ChangeShapes Go.WideShapes Go.ChangeAt Go.RowKit

theorem lawG_big (st en s1 s2 : Int) (co : Bool) (a a1 a2 : Option Addr) (n c n1 c1 n2 c2 : Nat) (w : World) (hm : 1048576 < n + n1 + n2) :
    Calls Try.prog 5 #[.int .i64 st, .int .i64 en, .bool co, .slice a n c, .int .i64 s1, .slice a1 n1 c1, .int .i64 s2, .slice a2 n2 c2] w fun e w' => e = .returned (.bool true) ∧ Below w.heap.size w w' := by
  go_enter Try.func5, Try.ntmps5
  go_wp2_with (go_at_call 21; refine (bytesG_no _ _ _ _ _ _ _ _ _ _ _ _ _ _ _ hm).mono ?_; rintro e w' ⟨rfl, rfl⟩)
  go_ret
  exact ⟨rfl, Below.refl _ _⟩

theorem lawG_n (st en s1 s2 : Int) (co : Bool) (a a1 a2 : Option Addr) (n c n1 c1 n2 c2 : Nat) (w : World) (hm : n + n1 + n2 ≤ 1048576) (h1 : 65536 < n) :
    Calls Try.prog 5 #[.int .i64 st, .int .i64 en, .bool co, .slice a n c, .int .i64 s1, .slice a1 n1 c1, .int .i64 s2, .slice a2 n2 c2] w fun e w' => e = .returned (.bool true) ∧ Below w.heap.size w w' := by
  go_enter Try.func5, Try.ntmps5
  go_wp2_with (go_at_call 21; refine (bytesG _ _ _ _ _ _ _ _ _ _ _ _ _ _ _ hm).mono ?_; rintro e w' ⟨rfl, rfl⟩)
  go_ret
  exact ⟨rfl, Below.refl _ _⟩

theorem lawG_n1 (st en s1 s2 : Int) (co : Bool) (a a1 a2 : Option Addr) (n c n1 c1 n2 c2 : Nat) (w : World) (hm : n + n1 + n2 ≤ 1048576) (h1 : n ≤ 65536) (h2 : 32768 < n1) :
    Calls Try.prog 5 #[.int .i64 st, .int .i64 en, .bool co, .slice a n c, .int .i64 s1, .slice a1 n1 c1, .int .i64 s2, .slice a2 n2 c2] w fun e w' => e = .returned (.bool true) ∧ Below w.heap.size w w' := by
  go_enter Try.func5, Try.ntmps5
  go_wp2_with (go_at_call 21; refine (bytesG _ _ _ _ _ _ _ _ _ _ _ _ _ _ _ hm).mono ?_; rintro e w' ⟨rfl, rfl⟩)
  go_ret
  exact ⟨rfl, Below.refl _ _⟩

theorem lawG_n2 (st en s1 s2 : Int) (co : Bool) (a a1 a2 : Option Addr) (n c n1 c1 n2 c2 : Nat) (w : World) (hm : n + n1 + n2 ≤ 1048576) (h1 : n ≤ 65536) (h2 : n1 ≤ 32768) (h3 : 32768 < n2) :
    Calls Try.prog 5 #[.int .i64 st, .int .i64 en, .bool co, .slice a n c, .int .i64 s1, .slice a1 n1 c1, .int .i64 s2, .slice a2 n2 c2] w fun e w' => e = .returned (.bool true) ∧ Below w.heap.size w w' := by
  go_enter Try.func5, Try.ntmps5
  go_wp2_with (go_at_call 21; refine (bytesG _ _ _ _ _ _ _ _ _ _ _ _ _ _ _ hm).mono ?_; rintro e w' ⟨rfl, rfl⟩)
  go_ret
  exact ⟨rfl, Below.refl _ _⟩

theorem lawG_sum (st en s1 s2 : Int) (co : Bool) (a a1 a2 : Option Addr) (n c n1 c1 n2 c2 : Nat) (w : World) (h1 : n ≤ 65536) (h2 : n1 ≤ 32768) (h3 : n2 ≤ 32768) (h4 : 1048576 < n * 16 + n1 * 24 + n2 * 24) :
    Calls Try.prog 5 #[.int .i64 st, .int .i64 en, .bool co, .slice a n c, .int .i64 s1, .slice a1 n1 c1, .int .i64 s2, .slice a2 n2 c2] w fun e w' => e = .returned (.bool true) ∧ Below w.heap.size w w' := by
  have h5 : (1048576 : Int) < (n : Int) * 16 + (n1 : Int) * 24 + (n2 : Int) * 24 := by omega
  go_enter Try.func5, Try.ntmps5
  go_wp2_with (go_at_call 21; refine (bytesG _ _ _ _ _ _ _ _ _ _ _ _ _ _ _ (by omega)).mono ?_; rintro e w' ⟨rfl, rfl⟩)
  go_ret
  exact ⟨rfl, Below.refl _ _⟩

theorem logw_zero (a a' : Option Addr) (m n c c' : Nat) (L : List Acc) (l : List Wc) (w : World) (hm : m ≤ 1048576) (hfn : n ≤ m) (hL : HasA w a m L) (hl : HasC w a' n l) (hok : okKeys l = true)
    (heq : ∀ k, k < n → L.getD k acc0 = (l.getD k wc0).acc) :
    Calls Try.prog 28 #[.slice a m c, .int .i64 0, .slice a' n c'] w fun e w' => e = .returned (.bool true) ∧ Below w.heap.size w w' :=
  logw_any a a' m n c c' 0 L l w hm (by omega) hL hl hok (fun k hk => by rw [Nat.zero_add]; exact heq k hk)

theorem lawG_keys1 (st en s1 s2 : Int) (co : Bool) (a a1 a2 : Option Addr) (n c n1 c1 n2 c2 : Nat) (l1 l2 : List Wc) (w : World) (h1 : n ≤ 65536) (h2 : n1 ≤ 32768) (h3 : n2 ≤ 32768) (h4 : n * 16 + n1 * 24 + n2 * 24 ≤ 1048576) (hl1 : HasC w a1 n1 l1) (hl2 : HasC w a2 n2 l2) (hk : okKeys l1 = false) :
    Calls Try.prog 5 #[.int .i64 st, .int .i64 en, .bool co, .slice a n c, .int .i64 s1, .slice a1 n1 c1, .int .i64 s2, .slice a2 n2 c2] w fun e w' => e = .returned (.bool true) ∧ Below w.heap.size w w' := by
  have h5 : (n : Int) * 16 + (n1 : Int) * 24 + (n2 : Int) * 24 ≤ 1048576 := by omega
  have d1 : decide ((65536 : Int) < (n : Int)) = false := decide_eq_false (by omega)
  have d2 : decide ((32768 : Int) < (n1 : Int)) = false := decide_eq_false (by omega)
  have d2' : decide ((32768 : Int) < (n2 : Int)) = false := decide_eq_false (by omega)
  have d3 : decide ((1048576 : Int) < (n : Int) * 16 + (n1 : Int) * 24 + (n2 : Int) * 24) = false := decide_eq_false (by omega)
  have HL1 : Hid (HasC w a1 n1 l1) := hl1
  have HL2 : Hid (HasC w a2 n2 l2) := hl2
  clear hl1 hl2
  go_enter Try.func5, Try.ntmps5
  go_wp2_with (go_at_call 21; refine (bytesG _ _ _ _ _ _ _ _ _ _ _ _ _ _ _ (by omega)).mono ?_; rintro e w0 ⟨rfl, rfl⟩)
  refine (keys_any _ _ _ l1 _ (by omega) HL1.out).mono ?_
  rintro e w0 ⟨rfl, rfl⟩
  go_wp2_with fail
  go_ret
  exact ⟨rfl, Below.refl _ _⟩

theorem lawG_keys2 (st en s1 s2 : Int) (co : Bool) (a a1 a2 : Option Addr) (n c n1 c1 n2 c2 : Nat) (l1 l2 : List Wc) (w : World) (h1 : n ≤ 65536) (h2 : n1 ≤ 32768) (h3 : n2 ≤ 32768) (h4 : n * 16 + n1 * 24 + n2 * 24 ≤ 1048576) (hl1 : HasC w a1 n1 l1) (hl2 : HasC w a2 n2 l2) (hk : okKeys l1 = true) (hk2 : okKeys l2 = false) :
    Calls Try.prog 5 #[.int .i64 st, .int .i64 en, .bool co, .slice a n c, .int .i64 s1, .slice a1 n1 c1, .int .i64 s2, .slice a2 n2 c2] w fun e w' => e = .returned (.bool true) ∧ Below w.heap.size w w' := by
  have h5 : (n : Int) * 16 + (n1 : Int) * 24 + (n2 : Int) * 24 ≤ 1048576 := by omega
  have d1 : decide ((65536 : Int) < (n : Int)) = false := decide_eq_false (by omega)
  have d2 : decide ((32768 : Int) < (n1 : Int)) = false := decide_eq_false (by omega)
  have d2' : decide ((32768 : Int) < (n2 : Int)) = false := decide_eq_false (by omega)
  have d3 : decide ((1048576 : Int) < (n : Int) * 16 + (n1 : Int) * 24 + (n2 : Int) * 24) = false := decide_eq_false (by omega)
  have HL1 : Hid (HasC w a1 n1 l1) := hl1
  have HL2 : Hid (HasC w a2 n2 l2) := hl2
  clear hl1 hl2
  go_enter Try.func5, Try.ntmps5
  go_wp2_with (go_at_call 21; refine (bytesG _ _ _ _ _ _ _ _ _ _ _ _ _ _ _ (by omega)).mono ?_; rintro e w0 ⟨rfl, rfl⟩)
  refine (keys_any _ _ _ l1 _ (by omega) HL1.out).mono ?_
  rintro e w0 ⟨rfl, rfl⟩
  go_wp2_with fail
  refine (keys_any _ _ _ l2 _ (by omega) HL2.out).mono ?_
  rintro e w0 ⟨rfl, rfl⟩
  go_wp2_with fail
  go_ret
  exact ⟨rfl, Below.refl _ _⟩

set_option maxRecDepth 100000 in
set_option maxHeartbeats 8000000 in
theorem lawG_main (st en s1 s2 : Int) (co : Bool) (a a1 a2 : Option Addr) (n c n1 c1 n2 c2 : Nat) (A : List Acc) (l1 l2 : List Wc) (w : World) (h1 : n ≤ 65536) (h2 : n1 ≤ 32768) (h3 : n2 ≤ 32768) (h4 : n * 16 + n1 * 24 + n2 * 24 ≤ 1048576)
    (hA : HasA w a n A) (h0 : a = none → n = 0 ∧ c = 0) (hl1 : HasC w a1 n1 l1) (hl2 : HasC w a2 n2 l2) (hk : okKeys l1 = true) (hk2 : okKeys l2 = true) :
    Calls Try.prog 5 #[.int .i64 st, .int .i64 en, .bool co, .slice a n c, .int .i64 s1, .slice a1 n1 c1, .int .i64 s2, .slice a2 n2 c2] w fun e w' => e = .returned (.bool true) ∧ Below w.heap.size w w' := by
  have h5 : (n : Int) * 16 + (n1 : Int) * 24 + (n2 : Int) * 24 ≤ 1048576 := by omega
  have d1 : decide ((65536 : Int) < (n : Int)) = false := decide_eq_false (by omega)
  have d2 : decide ((32768 : Int) < (n1 : Int)) = false := decide_eq_false (by omega)
  have d2' : decide ((32768 : Int) < (n2 : Int)) = false := decide_eq_false (by omega)
  have d3 : decide ((1048576 : Int) < (n : Int) * 16 + (n1 : Int) * 24 + (n2 : Int) * 24) = false := decide_eq_false (by omega)
  have HL1 : Hid (HasC w a1 n1 l1) := hl1
  have HL2 : Hid (HasC w a2 n2 l2) := hl2
  clear hl1 hl2
  have HA : Hid (HasA w a n A) := hA
  have H0 : Hid (a = none → n = 0 ∧ c = 0) := h0
  clear hA h0
  go_enter Try.func5, Try.ntmps5
  go_wp2_with (go_at_call 21; refine (bytesG _ _ _ _ _ _ _ _ _ _ _ _ _ _ _ (by omega)).mono ?_; rintro e w0 ⟨rfl, rfl⟩)
  refine (keys_any _ _ _ l1 _ (by omega) HL1.out).mono ?_
  rintro e w0 ⟨rfl, rfl⟩
  go_wp2_with fail
  refine (keys_any _ _ _ l2 _ (by omega) HL2.out).mono ?_
  rintro e w0 ⟨rfl, rfl⟩
  go_wp2_with fail
  have HK1 : Hid (okKeys l1 = true) := hk
  have HK2 : Hid (okKeys l2 = true) := hk2
  clear hk hk2
  refine (to_any a n c A _ (by omega) HA.out H0.out).mono ?_
  rintro e w1 ⟨a3, rfl, hb1, hz1, hn1⟩
  have HB1 : Hid (Below w0.heap.size w0 w1) := hb1
  have HZ1 : Hid _ := hz1
  have HN1 : Hid (a3 = none → n = 0) := hn1
  clear hb1 hz1 hn1
  go_wp2_with fail
  refine (nrec_any w0.heap.size st en co a3 n A w1 (by omega) HZ1.out HN1.out HB1.out.size).mono ?_
  rintro e w2 ⟨r, v, rfl, hb2, hlog⟩
  have HB2 : Hid (Below w0.heap.size w0 w2) := HB1.out.trans (hb2.mono HB1.out.size)
  have HG2 : Hid _ := hlog
  clear hb2 hlog HZ1 HN1 HB1
  go_wp2_with fail
  refine (begin_any w0.heap.size r st en s1 co n _ v w2 HG2.out).mono ?_
  rintro e w3 ⟨rfl, hlog3, hb3⟩
  have HB3 : Hid (Below w0.heap.size w0 w3) := HB2.out.trans hb3
  have HG3 : Hid _ := hlog3
  clear hb3 hlog3 HG2 HB2
  go_wp2_with fail
  go_loopw [18] (fun i wr => ∃ k : Nat, k ≤ n1 ∧ i = .int .i64 k ∧ Below w0.heap.size w0 wr ∧ ∃ v, Log wr w0.heap.size r s1 en co (0 + k) (flat ([] ++ (l1.take k).map Wc.acc)) v) (fun i _ => n1 - (intOf i).toNat)
  case atStart => exact ⟨0, Nat.zero_le _, rfl, HB3.out, _, by simpa [flat] using HG3.out⟩
  case round =>
    obtain ⟨k, hk, rfl, hbel, v, hlog⟩ := hrel
    have HB : Hid _ := hbel
    have HG : Hid _ := hlog
    clear hlog
    by_cases hlt : k < n1
    · obtain ⟨b, off, rfl, hb, hcell⟩ := HL1.out.at' (by omega)
      obtain ⟨c1, c2, c3⟩ := wcAt_of (hcell k hlt) (hbel.block b hb)
      obtain ⟨y, hy⟩ : ∃ y, y = l1.getD k wc0 := ⟨_, rfl⟩
      have HY : Hid (y = l1.getD k wc0) := hy
      have hkl : k < l1.length := by have := HL1.out.len; omega
      have hkey : -2147483648 ≤ y.key ∧ y.key ≤ 2147483647 := by rw [hy]; exact okKeys_get HK1.out hkl
      rw [← hy] at c1 c2 c3
      obtain ⟨yk, yv, yn⟩ := y
      obtain ⟨hk3, hk4⟩ := hkey
      clear hy hcell hbel
      simp only at c1 c2 c3 hk3 hk4
      have hk0 : (0 : Int) ≤ (k : Int) := by omega
      have hk1 : (k : Int) < (n1 : Int) := by omega
      go_wp2_with fail
      go_region_held3 (fun w' => w'.cell? ⟨b, off + k * 3, none⟩ = some (.int .i64 yk) ∧ w'.cell? ⟨b, off + k * 3 + 1, none⟩ = some (.int .i64 yv) ∧ w'.cell? ⟨b, off + k * 3 + 2, none⟩ = some (.bool yn)) (go_keep) ((go_at_call 26; refine (rwrite_any w0.heap.size r s1 en co (0 + k) _ v _ _ _ _ (Log.drew HG.out) (by omega) hk3 hk4).mono ?_; rintro e w5 ⟨rfl, v', hl5, hb5⟩; have HL5 : Hid _ := hl5; have HB5 : Hid _ := hb5; have e1 := (hb5.cell (p := ⟨b, off + k * 3, none⟩) hb).trans c1; have e2 := (hb5.cell (p := ⟨b, off + k * 3 + 1, none⟩) hb).trans c2; have e3 := (hb5.cell (p := ⟨b, off + k * 3 + 2, none⟩) hb).trans c3; clear hl5 hb5))
      have HB6 : Hid (Below w0.heap.size w0 w5) := (HB.out.drew).trans HB5.out
      have HG6 : Hid (Log w5 w0.heap.size r s1 en co (0 + (k + 1)) (flat ([] ++ (l1.take (k + 1)).map Wc.acc)) v') := by
        have := HL5.out
        rw [log_step [] l1 k hkl, ← HY.out]
        exact this
      clear HL5 HB5 e1 e2 e3 c1 c2 c3 HB HG
      go_wp2_with fail
      go_roundw
      case rel => exact ⟨k + 1, by omega, by go_num, HB6.out, v', HG6.out⟩
      case measure => simp [intOf]; omega
    · obtain rfl : k = n1 := by omega
      clear hbel
      go_wp2_with fail
      refine (begin_any w0.heap.size r s1 en s2 co _ _ v wr HG.out).mono ?_
      rintro e w6 ⟨rfl, hlog6, hb6⟩
      have HB6 : Hid (Below w0.heap.size w0 w6) := HB.out.trans hb6
      have HG6 : Hid _ := hlog6
      clear hb6 hlog6 HG HB HG3 HB3
      go_wp2_with fail
      clear h5 d1 d2 d2' d3
      go_loopw [19] (fun i wq => ∃ j : Nat, j ≤ n2 ∧ i = .int .i64 j ∧ Below w0.heap.size w0 wq ∧ ∃ v, Log wq w0.heap.size r s2 en co (0 + j) (flat ([] ++ (l2.take j).map Wc.acc)) v) (fun i _ => n2 - (intOf i).toNat)
      case atStart => exact ⟨0, Nat.zero_le _, rfl, HB6.out, _, by simpa [flat] using HG6.out⟩
      case round =>
        obtain ⟨j, hj, rfl, hbq, v2, hlogq⟩ := hrel
        have HQ : Hid _ := hbq
        have HG : Hid _ := hlogq
        clear hlogq
        by_cases hlt2 : j < n2
        · obtain ⟨b, off, rfl, hb, hcell⟩ := HL2.out.at' (by omega)
          obtain ⟨c1, c2, c3⟩ := wcAt_of (hcell j hlt2) (hbq.block b hb)
          obtain ⟨y, hy⟩ : ∃ y, y = l2.getD j wc0 := ⟨_, rfl⟩
          have HY : Hid (y = l2.getD j wc0) := hy
          have hkl : j < l2.length := by have := HL2.out.len; omega
          have hkey : -2147483648 ≤ y.key ∧ y.key ≤ 2147483647 := by rw [hy]; exact okKeys_get HK2.out hkl
          rw [← hy] at c1 c2 c3
          obtain ⟨yk, yv, yn⟩ := y
          obtain ⟨hk3, hk4⟩ := hkey
          clear hy hcell hbq
          simp only at c1 c2 c3 hk3 hk4
          have hj0 : (0 : Int) ≤ (j : Int) := by omega
          have hj1 : (j : Int) < (n2 : Int) := by omega
          go_wp2_with fail
          go_region_held3 (fun w' => w'.cell? ⟨b, off + j * 3, none⟩ = some (.int .i64 yk) ∧ w'.cell? ⟨b, off + j * 3 + 1, none⟩ = some (.int .i64 yv) ∧ w'.cell? ⟨b, off + j * 3 + 2, none⟩ = some (.bool yn)) (go_keep) ((go_at_call 26; refine (rwrite_any w0.heap.size r s2 en co (0 + j) _ v2 _ _ _ _ (Log.drew HG.out) (by omega) hk3 hk4).mono ?_; rintro e w5 ⟨rfl, v', hl5, hb5⟩; have HL5 : Hid _ := hl5; have HB5 : Hid _ := hb5; have e1 := (hb5.cell (p := ⟨b, off + j * 3, none⟩) hb).trans c1; have e2 := (hb5.cell (p := ⟨b, off + j * 3 + 1, none⟩) hb).trans c2; have e3 := (hb5.cell (p := ⟨b, off + j * 3 + 2, none⟩) hb).trans c3; clear hl5 hb5))
          have HB7 : Hid (Below w0.heap.size w0 w5) := (HQ.out.drew).trans HB5.out
          have HG7 : Hid (Log w5 w0.heap.size r s2 en co (0 + (j + 1)) (flat ([] ++ (l2.take (j + 1)).map Wc.acc)) v') := by
            have := HL5.out
            rw [log_step [] l2 j hkl, ← HY.out]
            exact this
          clear HL5 HB5 e1 e2 e3 c1 c2 c3 HQ HG
          go_wp2_with fail
          go_roundw
          case rel => exact ⟨j + 1, by omega, by go_num, HB7.out, v', HG7.out⟩
          case measure => simp [intOf]; omega
        · obtain rfl : j = n2 := by omega
          have HG8 : Hid (Log wr w0.heap.size r s2 en co j (flat (l2.map Wc.acc)) v2) := by
            have := HG.out
            rw [List.take_of_length_le (by rw [HL2.out.len]; exact Nat.le_refl _), Nat.zero_add] at this
            exact this
          clear hbq HG
          go_wp2_with fail
          refine (out_any w0.heap.size r s2 en co j (l2.map Wc.acc) v2 wr (by omega) HG8.out).mono ?_
          rintro e w8 ⟨a8, rfl, hb8, hz8⟩
          have HB8 : Hid (Below w0.heap.size w0 w8) := HQ.out.trans (hb8.mono HQ.out.size)
          have HR8 : Hid (recIs w8 r s2 en co v2) := recIs.of HG8.out.isRec (hb8.block r HG8.out.isRec.lt)
          have HZ8 : Hid _ := hz8
          clear hb8 hz8 HQ HG8
          go_wp2_with fail
          refine (logw_zero a8 a2 j j _ _ (l2.map Wc.acc) l2 w8 (by omega) (Nat.le_refl _) HZ8.out ((HL2.out).below HB8.out) HK2.out ?_).mono ?_
          · intro q hq
            have := HL2.out.len
            rw [List.getD_eq_getElem?_getD, List.getElem?_map]
            simp [show q < l2.length by omega]
          rintro e w9 ⟨rfl, hb9⟩
          have HB9 : Hid (Below w0.heap.size w0 w9) := HB8.out.trans (hb9.mono HB8.out.size)
          have HR9 : Hid (recIs w9 r s2 en co v2) := recIs.of HR8.out (hb9.block r (recIs.lt HR8.out))
          clear hb9
          go_wp2_with (first | (go_at_call 29; refine (start_any r s2 en co v2 _ HR9.out).mono ?_; rintro e w8 ⟨rfl, rfl⟩) | (go_at_call 30; refine (end_any r s2 en co v2 _ HR9.out).mono ?_; rintro e w8 ⟨rfl, rfl⟩) | (go_at_call 31; refine (comm_any r s2 en co v2 _ HR9.out).mono ?_; rintro e w8 ⟨rfl, rfl⟩))
          go_ret
          exact ⟨rfl, HB9.out⟩
end Go.Proofs.Qxb6615561a
