/-
  THE WALK OF FnAckScriptKeepsGreatest, where the position moves.
-/
import Derived.Test.Qxb6615600aLawS
namespace Go.Proofs.Qxb6615600a
open Go.ChangeShapes Go.WideShapes Go.ChangeAt Go.RowKit
open Plain

set_option maxRecDepth 100000 in
set_option maxHeartbeats 8000000 in
theorem lawS_high (n0 b0 e0 : Int) (a : Option Addr) (n c : Nat) (l : List Sp) (w : World) (hm : n ≤ 32768) (hl : HasS w a n l) (hG : n0 < gm n0 l) :
    Calls Try.prog 3 #[.int .u64 n0, .int .u64 b0, .int .u64 e0, .slice a n c] w fun e w' => e = .returned (.bool true) ∧ Below w.heap.size w w' := by
  have d1 : decide ((32768 : Int) < (n : Int)) = false := decide_eq_false (by omega)
  have HL : Hid (HasS w a n l) := hl
  have HG : Hid (n0 < gm n0 l) := hG
  clear hl hG
  go_enter Try.func3, Try.ntmps3
  go_wp2_with (go_at_call 5; refine (bytesS _ _ _ _ _ _ _ (by omega)).mono ?_; rintro e w0 ⟨rfl, rfl⟩)
  refine (new_any n0 b0 e0 _).mono ?_
  rintro x w1 ⟨r, ch, rfl, ha1, hb1⟩
  have HA1 : Hid (AcksS w1 w0.heap.size r ch ⟨n0, b0, e0, false⟩) := ha1
  have HB1 : Hid _ := hb1
  clear ha1 hb1
  go_wp2_with fail
  go_loopw [10] (fun i wr => ∃ k : Nat, k ≤ n ∧ i = .int .i64 k ∧ Below w0.heap.size w0 wr ∧ AcksS wr w0.heap.size r ch (runS ⟨n0, b0, e0, false⟩ (l.take k))) (fun i _ => n - (intOf i).toNat)
  case atStart => exact ⟨0, Nat.zero_le _, rfl, HB1.out, by simpa [runS] using HA1.out⟩
  case round =>
    obtain ⟨k, hk, rfl, hbel, hacks⟩ := hrel
    have HB : Hid _ := hbel
    have HA : Hid _ := hacks
    clear hacks
    by_cases hlt : k < n
    · obtain ⟨b, off, rfl, hb, hcell⟩ := HL.out.at' (by omega)
      obtain ⟨c1, c2, c3⟩ := spAt_of (hcell k hlt) (hbel.block b hb)
      have hkl : k < l.length := by have := HL.out.len; omega
      obtain ⟨y, hy⟩ : ∃ y, y = l.getD k sp0 := ⟨_, rfl⟩
      have HY : Hid (y = l.getD k sp0) := hy
      rw [← hy] at c1 c2 c3
      clear hy hcell hbel
      have hk0 : (0 : Int) ≤ (k : Int) := by omega
      have hk1 : (k : Int) < (n : Int) := by omega
      go_wp2_with fail
      go_region_held3 (fun w' => w'.cell? ⟨b, off + k * 3, none⟩ = some (.int .u64 y.n) ∧ w'.cell? ⟨b, off + k * 3 + 1, none⟩ = some (.int .u64 y.b) ∧ w'.cell? ⟨b, off + k * 3 + 2, none⟩ = some (.int .u64 y.e)) (go_keep) ((go_at_call 7; refine (zack_any w0.heap.size r ch (runS ⟨n0, b0, e0, false⟩ (l.take k)) y _ (AcksS.drew HA.out)).mono ?_; rintro x w5 ⟨rfl, ha5, hb5⟩; have HA5 : Hid _ := ha5; have HB5 : Hid _ := hb5; have e1 := (hb5.cell (p := ⟨b, off + k * 3, none⟩) hb).trans c1; have e2 := (hb5.cell (p := ⟨b, off + k * 3 + 1, none⟩) hb).trans c2; have e3 := (hb5.cell (p := ⟨b, off + k * 3 + 2, none⟩) hb).trans c3; clear ha5 hb5))
      have HB6 : Hid (Below w0.heap.size w0 w5) := (HB.out.drew).trans HB5.out
      have HA6 : Hid (AcksS w5 w0.heap.size r ch (runS ⟨n0, b0, e0, false⟩ (l.take (k + 1)))) := by
        have := HA5.out
        rw [run_snoc _ l k hkl, ← HY.out]
        exact this
      clear HA5 HB5 e1 e2 e3 c1 c2 c3 HB HA
      go_wp2_with fail
      go_roundw
      case rel => exact ⟨k + 1, by omega, by go_num, HB6.out, HA6.out⟩
      case measure => simp [intOf]; omega
    · obtain rfl : k = n := by omega
      have HA2 : Hid (AcksS wr w0.heap.size r ch (runS ⟨n0, b0, e0, false⟩ l)) := by
        have := HA.out
        rw [List.take_of_length_le (by rw [HL.out.len]; exact Nat.le_refl _)] at this
        exact this
      clear hbel HA
      go_wp2_with fail
      clear d1
      go_loop [11, 12] (fun g i => ∃ j : Nat, j ≤ k ∧ i = .int .i64 j ∧ g = .int .u64 (gm n0 (l.take j))) (fun _ i => k - (intOf i).toNat)
      case atStart => exact ⟨0, Nat.zero_le _, rfl, rfl⟩
      case round =>
        obtain ⟨j, hj, rfl, rfl⟩ := hrel
        by_cases hlt2 : j < k
        · obtain ⟨b, off, rfl, hb, hcell⟩ := HL.out.at' (by omega)
          obtain ⟨c1, c2, c3⟩ := spAt_of (hcell j hlt2) (HB.out.block b hb)
          have hkl : j < l.length := by have := HL.out.len; omega
          have HS : Hid _ := gm_snoc n0 l j hkl
          obtain ⟨y, hy⟩ : ∃ y, y = l.getD j sp0 := ⟨_, rfl⟩
          rw [← hy] at c1 c2 c3 HS
          clear hy hcell c2 c3
          obtain ⟨g, hg⟩ : ∃ g, g = gm n0 (l.take j) := ⟨_, rfl⟩
          rw [← hg] at HS
          rw [← hg]
          clear hg
          have hj0 : (0 : Int) ≤ (j : Int) := by omega
          have hj1 : (j : Int) < (k : Int) := by omega
          by_cases hgy : g < y.n
          · go_wp2_with fail
            go_round
            case rel => exact ⟨j + 1, by omega, by go_num, by rw [HS.out]; unfold up; rw [if_pos hgy]⟩
            case measure => simp [intOf]; omega
          · go_wp2_with fail
            go_round
            case rel => exact ⟨j + 1, by omega, by go_num, by rw [HS.out]; unfold up; rw [if_neg (by omega)]⟩
            case measure => simp [intOf]; omega
        · obtain rfl : j = k := by omega
          obtain ⟨G, hG⟩ : ∃ G, G = gm n0 l := ⟨_, rfl⟩
          rw [List.take_of_length_le (show l.length ≤ j by rw [HL.out.len]; exact Nat.le_refl _), ← hG]
          have hGn : n0 < G := by rw [hG]; exact HG.out
          have HGe : Hid (G = gm n0 l) := hG
          clear hG
          go_wp2_with fail
          go_loopw [13, 14, 15, 16, 17] (fun wb we wk fd i wq => ∃ t : Nat, t ≤ j ∧ i = .int .i64 t ∧ Below w0.heap.size w0 wq ∧ AcksS wq w0.heap.size r ch (runS ⟨n0, b0, e0, false⟩ l) ∧
              ((fd = .bool false ∧ wb = .int .u64 b0 ∧ we = .int .u64 e0 ∧ wk = .int .i64 0 ∧ ∀ i, i < t → (l.getD i sp0).n ≠ G) ∨
               (fd = .bool true ∧ ∃ p, p < l.length ∧ (l.getD p sp0).n = G ∧ (∀ i, i < p → (l.getD i sp0).n ≠ G) ∧ wb = .int .u64 (l.getD p sp0).b ∧ we = .int .u64 (l.getD p sp0).e ∧ wk = .int .i64 1))) (fun _ _ _ _ i _ => j - (intOf i).toNat)
          case atStart => exact ⟨0, Nat.zero_le _, rfl, HB.out, HA2.out, .inl ⟨rfl, rfl, rfl, rfl, fun i hi => absurd hi (Nat.not_lt_zero _)⟩⟩
          case round =>
            obtain ⟨t, ht, rfl, hbq, hacq, hor⟩ := hrel
            have HBq : Hid _ := hbq
            have HAq : Hid _ := hacq
            clear hacq
            rcases hor with ⟨rfl, rfl, rfl, rfl, hno⟩ | ⟨rfl, p, hp, hpn, hpf, rfl, rfl, rfl⟩
            · have HNo : Hid (∀ i, i < t → (l.getD i sp0).n ≠ G) := hno
              clear hno
              by_cases hlt3 : t < j
              · obtain ⟨b, off, rfl, hb, hcell⟩ := HL.out.at' (by omega)
                obtain ⟨c1, c2, c3⟩ := spAt_of (hcell t hlt3) (hbq.block b hb)
                have htl : t < l.length := by have := HL.out.len; omega
                obtain ⟨y, hy⟩ : ∃ y, y = l.getD t sp0 := ⟨_, rfl⟩
                have HY : Hid (y = l.getD t sp0) := hy
                rw [← hy] at c1 c2 c3
                clear hy hcell hbq
                have ht0 : (0 : Int) ≤ (t : Int) := by omega
                have ht1 : (t : Int) < (j : Int) := by omega
                by_cases hyG : y.n = G
                · have hb1 : (y.n == G) = true := by simpa using hyG
                  have HYG : Hid (y.n = G) := hyG
                  clear hyG
                  go_wp2_with fail
                  go_quiet (fail)
                  go_wp2_with fail
                  go_roundw
                  case rel =>
                    refine ⟨t + 1, by omega, by go_num, ⟨HBq.out.os, HBq.out.tape, HBq.out.output, HBq.out.size, HBq.out.block⟩, AcksS.drewN HAq.out _, .inr ⟨rfl, t, htl, by rw [← HY.out]; exact HYG.out, HNo.out, by rw [← HY.out], by rw [← HY.out], rfl⟩⟩
                  case measure => simp [intOf]; omega
                · have hb1 : (y.n == G) = false := by simpa using hyG
                  have HYG : Hid (y.n ≠ G) := hyG
                  clear hyG
                  go_wp2_with fail
                  go_roundw
                  case rel =>
                    refine ⟨t + 1, by omega, by go_num, HBq.out, HAq.out, .inl ⟨rfl, rfl, rfl, rfl, fun i hi => ?_⟩⟩
                    by_cases hit : i < t
                    · exact HNo.out i hit
                    · obtain rfl : i = t := by omega
                      rw [← HY.out]; exact HYG.out
                  case measure => simp [intOf]; omega
              · exfalso
                obtain rfl : t = j := by omega
                exact gm_reached l n0 HG.out (fun i hi => by rw [← HGe.out]; exact HNo.out i (by rw [← HL.out.len]; exact hi))
            · have hst := run_first l ⟨n0, b0, e0, false⟩ p hp HG.out (by rw [hpn]; exact HGe.out) (fun i hi => by have := hpf i hi; rw [HGe.out] at this; exact this)
              have HA3 : Hid (AcksS wr w0.heap.size r ch ⟨G, (l.getD p sp0).b, (l.getD p sp0).e, true⟩) := by
                have := HAq.out
                rw [hst] at this
                rw [HGe.out]; exact this
              clear hst hpn hpf hbq HAq
              generalize l.getD p sp0 = y at *
              obtain ⟨yn, yb, ye⟩ := y
              simp only at HA3 ⊢
              by_cases hlt3 : t < j
              all_goals
                go_wp2_with fail
                refine (in_any w0.heap.size r ch G yb ye _ true wr HA3.out).mono ?_
                rintro x w6 ⟨rfl, q, rfl⟩
                have HA6 : Hid (AcksS (wr.drewN q) w0.heap.size r ch ⟨G, yb, ye, true⟩) := AcksS.drewN HA3.out q
                have HB6 : Hid (Below w0.heap.size w0 (wr.drewN q)) := ⟨HBq.out.os, HBq.out.tape, HBq.out.output, HBq.out.size, HBq.out.block⟩
                generalize wr.drewN q = W at *
                go_wp2_with (first | (go_at_call 9; refine (next_any w0.heap.size r ch G yb ye .nilIface true _ HA6.out).mono ?_; rintro x w7 ⟨rfl, rfl⟩) | (go_at_call 10; refine (kicks_any w0.heap.size r ch G yb ye .nilIface true _ HA6.out).mono ?_; rintro x w7 ⟨rfl, rfl⟩))
                go_ret
                exact ⟨rfl, HB6.out⟩
end Go.Proofs.Qxb6615600a
