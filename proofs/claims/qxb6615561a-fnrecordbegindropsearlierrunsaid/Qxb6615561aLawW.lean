/-
  THE WALK OF FnRecordWriteLogsEveryWrite.
-/
import Derived.Test.Qxb6615561aMake
namespace Go.Proofs.Qxb6615561a
open Go.ChangeShapes Go.WideShapes Go.ChangeAt Go.RowKit

theorem lawW_big (st en : Int) (co : Bool) (a a' : Option Addr) (n c n' c' : Nat) (w : World) (hm : 1048576 < n + n') :
    Calls Try.prog 6 #[.int .i64 st, .int .i64 en, .bool co, .slice a n c, .slice a' n' c'] w fun e w' => e = .returned (.bool true) ∧ Below w.heap.size w w' := by
  go_enter Try.func6, Try.ntmps6
  go_wp2_with (go_at_call 32; refine (bytesW_no _ _ _ _ _ _ _ _ _ _ hm).mono ?_; rintro e w' ⟨rfl, rfl⟩)
  go_ret
  exact ⟨rfl, Below.refl _ _⟩

theorem lawW_n (st en : Int) (co : Bool) (a a' : Option Addr) (n c n' c' : Nat) (w : World) (hm : n + n' ≤ 1048576) (h1 : 65536 < n) :
    Calls Try.prog 6 #[.int .i64 st, .int .i64 en, .bool co, .slice a n c, .slice a' n' c'] w fun e w' => e = .returned (.bool true) ∧ Below w.heap.size w w' := by
  go_enter Try.func6, Try.ntmps6
  go_wp2_with (go_at_call 32; refine (bytesW _ _ _ _ _ _ _ _ _ _ hm).mono ?_; rintro e w' ⟨rfl, rfl⟩)
  go_ret
  exact ⟨rfl, Below.refl _ _⟩

theorem lawW_m (st en : Int) (co : Bool) (a a' : Option Addr) (n c n' c' : Nat) (w : World) (hm : n + n' ≤ 1048576) (h1 : n ≤ 65536) (h2 : 32768 < n') :
    Calls Try.prog 6 #[.int .i64 st, .int .i64 en, .bool co, .slice a n c, .slice a' n' c'] w fun e w' => e = .returned (.bool true) ∧ Below w.heap.size w w' := by
  go_enter Try.func6, Try.ntmps6
  go_wp2_with (go_at_call 32; refine (bytesW _ _ _ _ _ _ _ _ _ _ hm).mono ?_; rintro e w' ⟨rfl, rfl⟩)
  go_ret
  exact ⟨rfl, Below.refl _ _⟩

theorem lawW_sum (st en : Int) (co : Bool) (a a' : Option Addr) (n c n' c' : Nat) (w : World) (h1 : n ≤ 65536) (h2 : n' ≤ 32768) (h3 : 1048576 < n * 16 + n' * 24) :
    Calls Try.prog 6 #[.int .i64 st, .int .i64 en, .bool co, .slice a n c, .slice a' n' c'] w fun e w' => e = .returned (.bool true) ∧ Below w.heap.size w w' := by
  have h4 : (1048576 : Int) < (n : Int) * 16 + (n' : Int) * 24 := by omega
  go_enter Try.func6, Try.ntmps6
  go_wp2_with (go_at_call 32; refine (bytesW _ _ _ _ _ _ _ _ _ _ (by omega)).mono ?_; rintro e w' ⟨rfl, rfl⟩)
  go_ret
  exact ⟨rfl, Below.refl _ _⟩

theorem lawW_keys (st en : Int) (co : Bool) (a a' : Option Addr) (n c n' c' : Nat) (l : List Wc) (w : World) (h1 : n ≤ 65536) (h2 : n' ≤ 32768) (h3 : n * 16 + n' * 24 ≤ 1048576) (hl : HasC w a' n' l) (hk : okKeys l = false) :
    Calls Try.prog 6 #[.int .i64 st, .int .i64 en, .bool co, .slice a n c, .slice a' n' c'] w fun e w' => e = .returned (.bool true) ∧ Below w.heap.size w w' := by
  have h4 : (n : Int) * 16 + (n' : Int) * 24 ≤ 1048576 := by omega
  have HL : Hid (HasC w a' n' l) := hl
  clear hl
  go_enter Try.func6, Try.ntmps6
  go_wp2_with (first | (go_at_call 32; refine (bytesW _ _ _ _ _ _ _ _ _ _ (by omega)).mono ?_; rintro e w' ⟨rfl, rfl⟩) | (go_at_call 22; refine (keys_any _ _ _ l _ (by omega) HL.out).mono ?_; rintro e w' ⟨rfl, rfl⟩))
  go_ret
  exact ⟨rfl, Below.refl _ _⟩

theorem okKeys_get {l : List Wc} (h : okKeys l = true) {k : Nat} (hk : k < l.length) : -2147483648 ≤ (l.getD k wc0).key ∧ (l.getD k wc0).key ≤ 2147483647 := by
  unfold okKeys at h
  rw [List.all_eq_true] at h
  have h1 := h l[k] (List.getElem_mem _)
  have e : l.getD k wc0 = l[k] := by simp [hk]
  rw [e]
  simpa [okKey] using h1

theorem log_step (A : List Acc) (l : List Wc) (k : Nat) (hk : k < l.length) : flat (A ++ (l.take (k + 1)).map Wc.acc) = flat (A ++ (l.take k).map Wc.acc) ++ [.int .i64 (l.getD k wc0).v, .int .i32 (l.getD k wc0).key, .bool true, .bool (l.getD k wc0).none] := by
  have e : l.take (k + 1) = l.take k ++ [l.getD k wc0] := by rw [List.take_succ_eq_append_getElem hk]; simp [hk]
  rw [e, List.map_append, ← List.append_assoc, flat_append]
  rfl

theorem Log.drew {w : World} {B r : Nat} {st en : Int} {co : Bool} {n : Nat} {xs : List Value} {v : Value} (h : Log w B r st en co n xs v) : Log w.drew B r st en co n xs v :=
  ⟨h.isRec, ownsRow_of h.own fun _ _ => rfl, h.far, h.base⟩

set_option maxRecDepth 100000 in
set_option maxHeartbeats 8000000 in
theorem lawW_main (st en : Int) (co : Bool) (a a' : Option Addr) (n c n' c' : Nat) (A : List Acc) (l : List Wc) (w : World) (h1 : n ≤ 65536) (h2 : n' ≤ 32768) (h3 : n * 16 + n' * 24 ≤ 1048576)
    (hA : HasA w a n A) (h0 : a = none → n = 0 ∧ c = 0) (hl : HasC w a' n' l) (hk : okKeys l = true) :
    Calls Try.prog 6 #[.int .i64 st, .int .i64 en, .bool co, .slice a n c, .slice a' n' c'] w fun e w' => e = .returned (.bool true) ∧ Below w.heap.size w w' := by
  have h4 : (n : Int) * 16 + (n' : Int) * 24 ≤ 1048576 := by omega
  have HL : Hid (HasC w a' n' l) := hl
  have d1 : decide ((65536 : Int) < (n : Int)) = false := decide_eq_false (by omega)
  have d2 : decide ((32768 : Int) < (n' : Int)) = false := decide_eq_false (by omega)
  have d3 : decide ((1048576 : Int) < (n : Int) * 16 + (n' : Int) * 24) = false := decide_eq_false (by omega)
  have HA : Hid (HasA w a n A) := hA
  have H0 : Hid (a = none → n = 0 ∧ c = 0) := h0
  clear hl hA h0
  go_enter Try.func6, Try.ntmps6
  go_wp2_with (first | (go_at_call 32; refine (bytesW _ _ _ _ _ _ _ _ _ _ (by omega)).mono ?_; rintro e w0 ⟨rfl, rfl⟩) | (go_at_call 22; refine (keys_any _ _ _ l _ (by omega) HL.out).mono ?_; rintro e w0 ⟨rfl, rfl⟩))
  refine (to_any a n c A _ (by omega) HA.out H0.out).mono ?_
  rintro e w1 ⟨a1, rfl, hb1, hz1, hn1⟩
  have HB1 : Hid (Below w0.heap.size w0 w1) := hb1
  have HZ1 : Hid _ := hz1
  have HN1 : Hid (a1 = none → n = 0) := hn1
  clear hb1 hz1 hn1
  go_wp2_with fail
  refine (nrec_any w0.heap.size st en co a1 n A w1 (by omega) HZ1.out HN1.out HB1.out.size).mono ?_
  rintro e w2 ⟨r, v, rfl, hb2, hlog⟩
  have HB2 : Hid (Below w0.heap.size w0 w2) := HB1.out.trans (hb2.mono HB1.out.size)
  have HG2 : Hid _ := hlog
  clear hb2 hlog HZ1 HN1 HB1
  go_wp2_with fail
  have HK : Hid (okKeys l = true) := hk
  clear hk
  go_loopw [12] (fun i wr => ∃ k : Nat, k ≤ n' ∧ i = .int .i64 k ∧ Below w0.heap.size w0 wr ∧ ∃ v, Log wr w0.heap.size r st en co (n + k) (flat (A ++ (l.take k).map Wc.acc)) v) (fun i _ => n' - (intOf i).toNat)
  case atStart => exact ⟨0, Nat.zero_le _, rfl, HB2.out, v, by simpa using HG2.out⟩
  case round =>
    obtain ⟨k, hk, rfl, hbel, v, hlog⟩ := hrel
    have HB : Hid _ := hbel
    have HG : Hid _ := hlog
    clear hlog
    by_cases hlt : k < n'
    · obtain ⟨b, off, rfl, hb, hcell⟩ := HL.out.at' (by omega)
      obtain ⟨c1, c2, c3⟩ := wcAt_of (hcell k hlt) (hbel.block b hb)
      obtain ⟨y, hy⟩ : ∃ y, y = l.getD k wc0 := ⟨_, rfl⟩
      have HY : Hid (y = l.getD k wc0) := hy
      have hkl : k < l.length := by have := HL.out.len; omega
      have hkey : -2147483648 ≤ y.key ∧ y.key ≤ 2147483647 := by rw [hy]; exact okKeys_get HK.out hkl
      rw [← hy] at c1 c2 c3
      obtain ⟨yk, yv, yn⟩ := y
      obtain ⟨hk3, hk4⟩ := hkey
      clear hy hcell hbel
      simp only at c1 c2 c3 hk3 hk4
      have hk0 : (0 : Int) ≤ (k : Int) := by omega
      have hk1 : (k : Int) < (n' : Int) := by omega
      go_wp2_with fail
      go_region_held3 (fun w' => w'.cell? ⟨b, off + k * 3, none⟩ = some (.int .i64 yk) ∧ w'.cell? ⟨b, off + k * 3 + 1, none⟩ = some (.int .i64 yv) ∧ w'.cell? ⟨b, off + k * 3 + 2, none⟩ = some (.bool yn)) (go_keep) ((go_at_call 26; refine (rwrite_any w0.heap.size r st en co (n + k) _ v _ _ _ _ (Log.drew HG.out) (by omega) hk3 hk4).mono ?_; rintro e w5 ⟨rfl, v', hl5, hb5⟩; have HL5 : Hid _ := hl5; have HB5 : Hid _ := hb5; have e1 := (hb5.cell (p := ⟨b, off + k * 3, none⟩) hb).trans c1; have e2 := (hb5.cell (p := ⟨b, off + k * 3 + 1, none⟩) hb).trans c2; have e3 := (hb5.cell (p := ⟨b, off + k * 3 + 2, none⟩) hb).trans c3; clear hl5 hb5))
      have HB6 : Hid (Below w0.heap.size w0 w5) := (HB.out.drew).trans HB5.out
      have HG6 : Hid (Log w5 w0.heap.size r st en co (n + (k + 1)) (flat (A ++ (l.take (k + 1)).map Wc.acc)) v') := by
        have := HL5.out
        rw [log_step A l k hkl, ← HY.out]
        exact this
      clear HL5 HB5 e1 e2 e3 c1 c2 c3 HB HG
      go_wp2_with fail
      go_roundw
      case rel => exact ⟨k + 1, by omega, by go_num, HB6.out, v', HG6.out⟩
      case measure => simp [intOf]; omega
    · obtain rfl : k = n' := by omega
      have HG3 : Hid (Log wr w0.heap.size r st en co (n + k) (flat (A ++ l.map Wc.acc)) v) := by
        have := HG.out
        rw [List.take_of_length_le (by rw [HL.out.len]; exact Nat.le_refl _)] at this
        exact this
      clear hbel HG
      go_wp2_with fail
      refine (out_any w0.heap.size r st en co (n + k) (A ++ l.map Wc.acc) v wr (by omega) HG3.out).mono ?_
      rintro e w3 ⟨a3, rfl, hb3, hz3⟩
      have HB3 : Hid (Below w0.heap.size w0 w3) := HB.out.trans (hb3.mono HB.out.size)
      have HR3 : Hid (recIs w3 r st en co v) := recIs.of HG3.out.isRec (hb3.block r HG3.out.isRec.lt)
      have HZ3 : Hid _ := hz3
      clear hb3 hz3 HB HG3 HG2 HB2
      go_wp2_with fail
      clear h4 d1 d2 d3
      go_loopw [14] (fun i wq => ∃ j : Nat, j ≤ n ∧ i = .int .i64 j ∧ Below w3.heap.size w3 wq) (fun i _ => n - (intOf i).toNat)
      case atStart => exact ⟨0, Nat.zero_le _, rfl, Below.refl _ _⟩
      case round =>
        obtain ⟨j, hj, rfl, hbq⟩ := hrel
        have HQ : Hid _ := hbq
        by_cases hlt2 : j < n
        · obtain ⟨b, off, rfl, hb, hcell⟩ := HA.out.at' (by omega)
          obtain ⟨c1, c2, c3, c4⟩ := accAt_of (accAt_of (hcell j hlt2) (HB3.out.block b hb)) (hbq.block b (Nat.lt_of_lt_of_le hb HB3.out.size))
          obtain ⟨lb, lo, rfl, hlb, hlcell⟩ := HZ3.out.at' (by omega)
          obtain ⟨d1, d2, d3, d4⟩ := accAt_of (hlcell j (by omega)) (hbq.block lb hlb)
          have ey : (A ++ l.map Wc.acc).getD j acc0 = A.getD j acc0 := by
            have := HA.out.len
            simp [List.getD_eq_getElem?_getD, List.getElem?_append, show j < A.length by omega]
          rw [ey] at d1 d2 d3 d4
          obtain ⟨y, hy⟩ : ∃ y, y = A.getD j acc0 := ⟨_, rfl⟩
          rw [← hy] at c1 c2 c3 c4 d1 d2 d3 d4
          obtain ⟨yv, yk, yw, yn⟩ := y
          clear hy ey hcell hlcell hbq
          simp only at c1 c2 c3 c4 d1 d2 d3 d4
          have hj0 : (0 : Int) ≤ (j : Int) := by omega
          have hj1 : (j : Int) < (n : Int) := by omega
          have hj2 : (j : Int) < (n : Int) + (k : Int) := by omega
          have hj3 : (j : Int) < ((n + k : Nat) : Int) := by omega
          go_wp2_with fail
          go_region_held3 (fun w' => w'.cell? ⟨lb, lo + j * 4, none⟩ = some (.int .i64 yv) ∧ w'.cell? ⟨lb, lo + j * 4 + 1, none⟩ = some (.int .i32 yk) ∧ w'.cell? ⟨lb, lo + j * 4 + 2, none⟩ = some (.bool yw) ∧ w'.cell? ⟨lb, lo + j * 4 + 3, none⟩ = some (.bool yn) ∧ w'.cell? ⟨b, off + j * 4, none⟩ = some (.int .i64 yv) ∧ w'.cell? ⟨b, off + j * 4 + 1, none⟩ = some (.int .i32 yk) ∧ w'.cell? ⟨b, off + j * 4 + 2, none⟩ = some (.bool yw) ∧ w'.cell? ⟨b, off + j * 4 + 3, none⟩ = some (.bool yn)) (go_keep) ((go_at_call 33; refine (same_any _ _ _ _ _).mono ?_; rintro e w' ⟨rfl, rfl⟩))
          have HQ1 : Hid (Below w3.heap.size w3 (wr.alloc (.cells #[.int .i64 yv, .int .i32 yk, .bool yw, .bool yn] 66)).drew) := (HQ.out.alloc HQ.out.size _).drew
          generalize (wr.alloc (.cells #[.int .i64 yv, .int .i32 yk, .bool yw, .bool yn] 66)).drew = W1 at *
          clear c1 c2 c3 c4 d1 d2 d3 d4
          go_wp2_with fail
          go_roundw
          case rel => exact ⟨j + 1, by omega, by go_num, HQ1.out⟩
          case measure => simp [intOf]; omega
        · obtain rfl : j = n := by omega
          clear hbq
          have HB4 : Hid (Below w0.heap.size w0 wr) := HB3.out.trans (HQ.out.mono HB3.out.size)
          have HR4 : Hid (recIs wr r st en co v) := recIs.of HR3.out (HQ.out.block r (recIs.lt HR3.out))
          go_wp2_with fail
          refine (logw_any a3 a' (j + k) k _ _ j (A ++ l.map Wc.acc) l wr (by omega) (Nat.le_refl _) (HZ3.out.below HQ.out) ((HL.out).below HB4.out) HK.out ?_).mono ?_
          · intro q hq
            have := HA.out.len
            have := HL.out.len
            rw [List.getD_eq_getElem?_getD, List.getElem?_append_right (by omega), show j + q - A.length = q by omega, List.getElem?_map]
            simp [show q < l.length by omega]
          rintro e w7 ⟨rfl, hb7⟩
          have HB7 : Hid (Below w0.heap.size w0 w7) := HB4.out.trans (hb7.mono HB4.out.size)
          have HR7 : Hid (recIs w7 r st en co v) := recIs.of HR4.out (hb7.block r (recIs.lt HR4.out))
          clear hb7
          go_wp2_with (first | (go_at_call 29; refine (start_any r st en co v _ HR7.out).mono ?_; rintro e w8 ⟨rfl, rfl⟩) | (go_at_call 30; refine (end_any r st en co v _ HR7.out).mono ?_; rintro e w8 ⟨rfl, rfl⟩) | (go_at_call 31; refine (comm_any r st en co v _ HR7.out).mono ?_; rintro e w8 ⟨rfl, rfl⟩))
          go_ret
          exact ⟨rfl, HB7.out⟩
end Go.Proofs.Qxb6615561a
