/-
  THE WALK OF FnAckScriptKeepsGreatest.
-/
import Derived.Test.Qxb6615600aFail
import Derived.Test.Qxb6615600aPlain
import Derived.Deep.RegionHeld3
namespace Go.Proofs.Qxb6615600a
open Go.ChangeShapes Go.WideShapes Go.ChangeAt Go.RowKit
open Plain

def spAt (w : World) (b o : Nat) (x : Sp) : Prop :=
  w.cell? ⟨b, o, none⟩ = some (.int .u64 x.n) ∧ w.cell? ⟨b, o + 1, none⟩ = some (.int .u64 x.b) ∧ w.cell? ⟨b, o + 2, none⟩ = some (.int .u64 x.e)

structure HasS (w : World) (a : Option Addr) (n : Nat) (l : List Sp) : Prop where
  len : l.length = n
  at' : n ≠ 0 → ∃ b off, a = some ⟨b, off, none⟩ ∧ b < w.heap.size ∧ ∀ i, i < n → spAt w b (off + i * 3) (l.getD i sp0)

theorem spAt_of {w w' : World} {b o : Nat} {x : Sp} (h : spAt w b o x) (hb : w'.heap[b]? = w.heap[b]?) : spAt w' b o x := by
  obtain ⟨h1, h2, h3⟩ := h
  exact ⟨(World.cell?_of_block (w := w) hb).trans h1, (World.cell?_of_block (w := w) hb).trans h2, (World.cell?_of_block (w := w) hb).trans h3⟩

/-- An acks that holds the state s. -/
def AcksS (w : World) (B r c : Nat) (s : St) : Prop := Acks w B r c s.n s.b s.e .nilIface s.k

theorem AcksS.drew {w : World} {B r c : Nat} {s : St} (h : AcksS w B r c s) : AcksS w.drew B r c s := Acks.of h rfl rfl
theorem AcksS.drewN {w : World} {B r c : Nat} {s : St} (h : AcksS w B r c s) (q : Nat) : AcksS (w.drewN q) B r c s := Acks.of h rfl rfl

/-- ZZack, one step of the model. -/
theorem zack_any (B r c : Nat) (s : St) (x : Sp) (w : World) (h : AcksS w B r c s) :
    Calls Try.prog 7 #[.pointer (some ⟨r, 0, none⟩), .int .u64 x.n, .int .u64 x.b, .int .u64 x.e] w fun y w' => y = .returned .nilIface ∧ AcksS w' B r c (Plain.step s x) ∧ Below B w w' := by
  unfold Plain.step
  by_cases hn : s.n < x.n
  · rw [if_pos hn]; exact zack_high B r c s.n s.b s.e s.k x.n x.b x.e w h hn
  · rw [if_neg hn]; exact zack_low B r c s.n s.b s.e s.k x.n x.b x.e w h hn

theorem bytesS (x y z : Int) (a : Option Addr) (n c : Nat) (w : World) (hm : n ≤ 1048576) :
    Calls Try.prog 5 #[.int .u64 x, .int .u64 y, .int .u64 z, .slice a n c] w fun e w' => e = .returned (.bool true) ∧ w' = w := by
  go_enter Try.func5, Try.ntmps5
  go_wp2
  go_ret
  exact ⟨rfl, rfl⟩
theorem bytesS_no (x y z : Int) (a : Option Addr) (n c : Nat) (w : World) (hm : 1048576 < n) :
    Calls Try.prog 5 #[.int .u64 x, .int .u64 y, .int .u64 z, .slice a n c] w fun e w' => e = .returned (.bool false) ∧ w' = w := by
  go_enter Try.func5, Try.ntmps5
  go_wp2
  go_ret
  exact ⟨rfl, rfl⟩

theorem lawS_big (n0 b0 e0 : Int) (a : Option Addr) (n c : Nat) (w : World) (hm : 1048576 < n) :
    Calls Try.prog 3 #[.int .u64 n0, .int .u64 b0, .int .u64 e0, .slice a n c] w fun e w' => e = .returned (.bool true) ∧ Below w.heap.size w w' := by
  go_enter Try.func3, Try.ntmps3
  go_wp2_with (go_at_call 5; refine (bytesS_no _ _ _ _ _ _ _ hm).mono ?_; rintro e w' ⟨rfl, rfl⟩)
  go_ret
  exact ⟨rfl, Below.refl _ _⟩
theorem lawS_mid (n0 b0 e0 : Int) (a : Option Addr) (n c : Nat) (w : World) (hm : n ≤ 1048576) (h2 : 32768 < n) :
    Calls Try.prog 3 #[.int .u64 n0, .int .u64 b0, .int .u64 e0, .slice a n c] w fun e w' => e = .returned (.bool true) ∧ Below w.heap.size w w' := by
  go_enter Try.func3, Try.ntmps3
  go_wp2_with (go_at_call 5; refine (bytesS _ _ _ _ _ _ _ hm).mono ?_; rintro e w' ⟨rfl, rfl⟩)
  go_ret
  exact ⟨rfl, Below.refl _ _⟩

set_option maxRecDepth 100000 in
set_option maxHeartbeats 8000000 in
theorem lawS_low (n0 b0 e0 : Int) (a : Option Addr) (n c : Nat) (l : List Sp) (w : World) (hm : n ≤ 32768) (hl : HasS w a n l) (hG : ¬ n0 < gm n0 l) :
    Calls Try.prog 3 #[.int .u64 n0, .int .u64 b0, .int .u64 e0, .slice a n c] w fun e w' => e = .returned (.bool true) ∧ Below w.heap.size w w' := by
  have d1 : decide ((32768 : Int) < (n : Int)) = false := decide_eq_false (by omega)
  have HL : Hid (HasS w a n l) := hl
  have HG : Hid (¬ n0 < gm n0 l) := hG
  clear hl hG
  go_enter Try.func3, Try.ntmps3
  go_wp2_with (go_at_call 5; refine (bytesS _ _ _ _ _ _ _ (by omega)).mono ?_; rintro e w0 ⟨rfl, rfl⟩)
  refine (new_any n0 b0 e0 _).mono ?_
  rintro x w1 ⟨r, ch, rfl, ha1, hb1⟩
  have HA1 : Hid (AcksS w1 w0.heap.size r ch ⟨n0, b0, e0, false⟩) := ha1
  have HB1 : Hid _ := hb1
  clear ha1 hb1
  go_wp2_with fail
  go_loopw [10] (fun i wr => ∃ k : Nat, k ≤ n ∧ i = .int .i64 k ∧ Below w0.heap.size w0 wr ∧ AcksS wr w0.heap.size r ch (runS ⟨n0, b0, e0, false⟩ (l.take k))) (fun i _ => n - (intOf i).toNat)
  case atStart => exact ⟨0, Nat.zero_le _, rfl, HB1.out, by simpa [runS] using HA1.out⟩
  case round =>
    obtain ⟨k, hk, rfl, hbel, hacks⟩ := hrel
    have HB : Hid _ := hbel
    have HA : Hid _ := hacks
    clear hacks
    by_cases hlt : k < n
    · obtain ⟨b, off, rfl, hb, hcell⟩ := HL.out.at' (by omega)
      obtain ⟨c1, c2, c3⟩ := spAt_of (hcell k hlt) (hbel.block b hb)
      have hkl : k < l.length := by have := HL.out.len; omega
      obtain ⟨y, hy⟩ : ∃ y, y = l.getD k sp0 := ⟨_, rfl⟩
      have HY : Hid (y = l.getD k sp0) := hy
      rw [← hy] at c1 c2 c3
      clear hy hcell hbel
      have hk0 : (0 : Int) ≤ (k : Int) := by omega
      have hk1 : (k : Int) < (n : Int) := by omega
      go_wp2_with fail
      go_region_held3 (fun w' => w'.cell? ⟨b, off + k * 3, none⟩ = some (.int .u64 y.n) ∧ w'.cell? ⟨b, off + k * 3 + 1, none⟩ = some (.int .u64 y.b) ∧ w'.cell? ⟨b, off + k * 3 + 2, none⟩ = some (.int .u64 y.e)) (go_keep) ((go_at_call 7; refine (zack_any w0.heap.size r ch (runS ⟨n0, b0, e0, false⟩ (l.take k)) y _ (AcksS.drew HA.out)).mono ?_; rintro x w5 ⟨rfl, ha5, hb5⟩; have HA5 : Hid _ := ha5; have HB5 : Hid _ := hb5; have e1 := (hb5.cell (p := ⟨b, off + k * 3, none⟩) hb).trans c1; have e2 := (hb5.cell (p := ⟨b, off + k * 3 + 1, none⟩) hb).trans c2; have e3 := (hb5.cell (p := ⟨b, off + k * 3 + 2, none⟩) hb).trans c3; clear ha5 hb5))
      have HB6 : Hid (Below w0.heap.size w0 w5) := (HB.out.drew).trans HB5.out
      have HA6 : Hid (AcksS w5 w0.heap.size r ch (runS ⟨n0, b0, e0, false⟩ (l.take (k + 1)))) := by
        have := HA5.out
        rw [run_snoc _ l k hkl, ← HY.out]
        exact this
      clear HA5 HB5 e1 e2 e3 c1 c2 c3 HB HA
      go_wp2_with fail
      go_roundw
      case rel => exact ⟨k + 1, by omega, by go_num, HB6.out, HA6.out⟩
      case measure => simp [intOf]; omega
    · obtain rfl : k = n := by omega
      have HA2 : Hid (AcksS wr w0.heap.size r ch ⟨n0, b0, e0, false⟩) := by
        have := HA.out
        rw [List.take_of_length_le (by rw [HL.out.len]; exact Nat.le_refl _), run_low l ⟨n0, b0, e0, false⟩ (by have := HG.out; show ¬ n0 < gm n0 l; omega)] at this
        exact this
      clear hbel HA
      go_wp2_with fail
      clear d1
      go_loop [11, 12] (fun g i => ∃ j : Nat, j ≤ k ∧ i = .int .i64 j ∧ g = .int .u64 (gm n0 (l.take j))) (fun _ i => k - (intOf i).toNat)
      case atStart => exact ⟨0, Nat.zero_le _, rfl, rfl⟩
      case round =>
        obtain ⟨j, hj, rfl, rfl⟩ := hrel
        by_cases hlt2 : j < k
        · obtain ⟨b, off, rfl, hb, hcell⟩ := HL.out.at' (by omega)
          obtain ⟨c1, c2, c3⟩ := spAt_of (hcell j hlt2) (HB.out.block b hb)
          have hkl : j < l.length := by have := HL.out.len; omega
          have HS : Hid _ := gm_snoc n0 l j hkl
          obtain ⟨y, hy⟩ : ∃ y, y = l.getD j sp0 := ⟨_, rfl⟩
          rw [← hy] at c1 c2 c3 HS
          clear hy hcell c2 c3
          obtain ⟨g, hg⟩ : ∃ g, g = gm n0 (l.take j) := ⟨_, rfl⟩
          rw [← hg] at HS
          rw [← hg]
          clear hg
          have hj0 : (0 : Int) ≤ (j : Int) := by omega
          have hj1 : (j : Int) < (k : Int) := by omega
          by_cases hgy : g < y.n
          · go_wp2_with fail
            go_round
            case rel => exact ⟨j + 1, by omega, by go_num, by rw [HS.out]; unfold up; rw [if_pos hgy]⟩
            case measure => simp [intOf]; omega
          · go_wp2_with fail
            go_round
            case rel => exact ⟨j + 1, by omega, by go_num, by rw [HS.out]; unfold up; rw [if_neg (by omega)]⟩
            case measure => simp [intOf]; omega
        · obtain rfl : j = k := by omega
          obtain ⟨G, hG⟩ : ∃ G, G = gm n0 (l.take j) := ⟨_, rfl⟩
          rw [← hG]
          have hGn : ¬ n0 < G := by rw [hG, List.take_of_length_le (by rw [HL.out.len]; exact Nat.le_refl _)]; have := HG.out; omega
          have hGe : G = n0 := by have := gm_ge (l.take j) n0; omega
          clear hG
          subst hGe
          go_wp2_with fail
          refine (in_any w0.heap.size r ch G b0 e0 _ false wr HA2.out).mono ?_
          rintro x w6 ⟨rfl, q, rfl⟩
          have HA6 : Hid (AcksS (wr.drewN q) w0.heap.size r ch ⟨G, b0, e0, false⟩) := AcksS.drewN HA2.out q
          have HB6 : Hid (Below w0.heap.size w0 (wr.drewN q)) := ⟨HB.out.os, HB.out.tape, HB.out.output, HB.out.size, HB.out.block⟩
          generalize wr.drewN q = W at *
          clear HA2 HB
          go_wp2_with (first | (go_at_call 9; refine (next_any w0.heap.size r ch G b0 e0 .nilIface false _ HA6.out).mono ?_; rintro x w7 ⟨rfl, rfl⟩) | (go_at_call 10; refine (kicks_any w0.heap.size r ch G b0 e0 .nilIface false _ HA6.out).mono ?_; rintro x w7 ⟨rfl, rfl⟩))
          go_ret
          exact ⟨rfl, HB6.out⟩
end Go.Proofs.Qxb6615600a
