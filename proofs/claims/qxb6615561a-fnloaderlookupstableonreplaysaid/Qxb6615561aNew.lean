/-
  ZZnewRecord.
-/
import Derived.Test.Qxb6615561aTo
namespace Go.Proofs.Qxb6615561a
open Go.ChangeShapes Go.WideShapes Go.ChangeAt Go.RowKit

/-- A record in block r: start, end, committed, the accesses' slice. -/
def recIs (w : World) (r : Nat) (st en : Int) (co : Bool) (v : Value) : Prop := w.heap[r]? = some (.cells #[.int .i64 st, .int .i64 en, .bool co, v] 90 (0, 0))

theorem recIs.cell {w : World} {r : Nat} {st en : Int} {co : Bool} {v : Value} (h : recIs w r st en co v) :
    w.cell? ⟨r, 0, none⟩ = some (.int .i64 st) ∧ w.cell? ⟨r, 1, none⟩ = some (.int .i64 en) ∧ w.cell? ⟨r, 2, none⟩ = some (.bool co) ∧ w.cell? ⟨r, 3, none⟩ = some v ∧
      w.frozen? ⟨r, 0, none⟩ = false ∧ w.frozen? ⟨r, 3, none⟩ = false := by
  refine ⟨?_, ?_, ?_, ?_, frozen_of_row w r _ _ _ h, frozen_of_row w r _ _ _ h⟩
  all_goals rw [cell_of_row w r _ _ _ _ h]; rfl

theorem recIs.lt {w : World} {r : Nat} {st en : Int} {co : Bool} {v : Value} (h : recIs w r st en co v) : r < w.heap.size := by
  rcases Nat.lt_or_ge r w.heap.size with hlt | hge
  · exact hlt
  · unfold recIs at h; rw [Array.getElem?_eq_none hge] at h; cases h

theorem recIs.of {w w' : World} {r : Nat} {st en : Int} {co : Bool} {v : Value} (h : recIs w r st en co v) (hb : w'.heap[r]? = w.heap[r]?) : recIs w' r st en co v := hb.trans h

theorem Try.under88 : Try.prog.underlying 88 = some (.slice 92) := by kernel_rfl

theorem nrec_nil (st en : Int) (co : Bool) (w : World) :
    Calls Try.prog 23 #[.int .i64 st, .int .i64 en, .bool co, .slice none 0 0] w fun e w' => e = .returned (.pointer (some ⟨w.heap.size, 0, none⟩)) ∧ Below w.heap.size w w' ∧ recIs w' w.heap.size st en co (.slice none 0 0) := by
  have hnil := fun w => run_neq_slice_nil_any (P := Try.prog) w 53 66 none 0 0 0 0 Try.underlying53
  go_enter Try.func23, Try.ntmps23
  go_wp2
  go_ret
  exact ⟨rfl, (Below.refl _ _).alloc (Nat.le_refl _) _, Deep.blk_alloc_new _ _⟩

set_option maxHeartbeats 4000000 in
theorem nrec_some (st en : Int) (co : Bool) (x : Addr) (n c : Nat) (l : List Acc) (w : World) (hm : n ≤ 1048576) (hz : HasA w (some x) n l) :
    Calls Try.prog 23 #[.int .i64 st, .int .i64 en, .bool co, .slice (some x) n c] w fun e w' => e = .returned (.pointer (some ⟨w.heap.size, 0, none⟩)) ∧ Below w.heap.size w w' ∧
      recIs w' w.heap.size st en co (.slice (some ⟨w.heap.size + 1, 0, none⟩) n n) ∧ RowA w' (w.heap.size + 1) 92 n n l := by
  have hmk := run_made 88 92 Try.under88 Try.info92 n hm
  have hnil := fun w => run_neq_slice_nil_any (P := Try.prog) w 53 66 (some x) n c 0 0 Try.underlying53
  have HZ : Hid (HasA w (some x) n l) := hz
  clear hz
  go_enter Try.func23, Try.ntmps23
  go_wp2
  obtain ⟨r, hr⟩ : ∃ r, r = w.heap.size := ⟨_, rfl⟩
  have HG : Hid (r = w.heap.size) := hr
  have hB0 : Below w.heap.size w ((w.alloc (.cells #[.int .i64 st, .int .i64 en, .bool co, .slice (some ⟨w.heap.size + 1, 0, none⟩) n n] 90)).alloc (.cells (made n) 92)) := ((Below.refl _ _).alloc (Nat.le_refl _) _).alloc (by simp) _
  have hc0 : recIs ((w.alloc (.cells #[.int .i64 st, .int .i64 en, .bool co, .slice (some ⟨w.heap.size + 1, 0, none⟩) n n] 90)).alloc (.cells (made n) 92)) w.heap.size st en co (.slice (some ⟨w.heap.size + 1, 0, none⟩) n n) := by
    unfold recIs
    rw [Deep.blk_alloc_lt _ _ _ (by simp)]; exact Deep.blk_alloc_new _ _
  have hr0 : RowA ((w.alloc (.cells #[.int .i64 st, .int .i64 en, .bool co, .slice (some ⟨w.heap.size + 1, 0, none⟩) n n] 90)).alloc (.cells (made n) 92)) (w.heap.size + 1) 92 n 0 l := by
    refine ⟨⟨_, ?_, size_made n⟩, fun i hi => absurd hi (Nat.not_lt_zero _)⟩
    have := Deep.blk_alloc_new (w.alloc (.cells #[.int .i64 st, .int .i64 en, .bool co, .slice (some ⟨w.heap.size + 1, 0, none⟩) n n] 90)) (.cells (made n) 92)
    simpa using this
  rw [← hr] at hc0 hr0
  have HB0 : Hid _ := hB0
  have HC0 : Hid _ := hc0
  have HR0 : Hid _ := hr0
  clear hB0 hc0 hr0
  rw [← hr]
  rw [← hr] at HB0
  clear hr hmk hnil
  generalize ((w.alloc (.cells #[.int .i64 st, .int .i64 en, .bool co, .slice (some ⟨r + 1, 0, none⟩) n n] 90)).alloc (.cells (made n) 92)) = W0 at *
  go_loopw [10] (fun i wr => ∃ k : Nat, k ≤ n ∧ i = .int .i64 k ∧ Below r w wr ∧ recIs wr r st en co (.slice (some ⟨r + 1, 0, none⟩) n n) ∧ RowA wr (r + 1) 92 n k l) (fun i _ => n - (intOf i).toNat)
  case atStart => exact ⟨0, Nat.zero_le _, rfl, HB0.out, HC0.out, HR0.out⟩
  case round =>
    obtain ⟨k, hk, rfl, hbel, hrec, hrow⟩ := hrel
    have HB : Hid _ := hbel
    have HC : Hid _ := hrec
    have HR : Hid _ := hrow
    by_cases hlt : k < n
    · obtain ⟨b, off, hx, hb, hcell⟩ := HZ.out.at' (by omega)
      obtain rfl := Option.some.inj hx
      obtain ⟨c1, c2, c3, c4⟩ := accAt_of (hcell k hlt) (hbel.block b (by rw [HG.out]; exact hb))
      obtain ⟨y, hy⟩ : ∃ y, y = l.getD k acc0 := ⟨_, rfl⟩
      have HY : Hid (y = l.getD k acc0) := hy
      rw [← hy] at c1 c2 c3 c4
      obtain ⟨v0, v1, v2, v3, e0, e1, e2, e3, f0, f1, f2, f3⟩ := hrow.there k hlt
      obtain ⟨_, _, _, rc, _, _⟩ := hrec.cell
      clear hx hcell hy hbel hrow hrec
      have hk0 : (0 : Int) ≤ (k : Int) := by omega
      have hk1 : (k : Int) < (n : Int) := by omega
      have hbg : b ≠ r + 1 := by have := HG.out; omega
      have hgb : r + 1 ≠ b := fun e => hbg e.symm
      obtain ⟨yv, yk, yw, yn⟩ := y
      simp only at c1 c2 c3 c4
      go_wp2
      go_region_held3 (fun w' => w'.cell? ⟨r, 3, none⟩ = some (.slice (some ⟨r + 1, 0, none⟩) n n) ∧ w'.cell? ⟨b, off + k * 4, none⟩ = some (.int .i64 yv) ∧ w'.cell? ⟨b, off + k * 4 + 1, none⟩ = some (.int .i32 yk) ∧ w'.cell? ⟨b, off + k * 4 + 2, none⟩ = some (.bool yw) ∧ w'.cell? ⟨b, off + k * 4 + 3, none⟩ = some (.bool yn)) (go_keep) (fail)
      have HB1 : Hid (Below r w (set4 wr (r + 1) (k * 4) ⟨yv, yk, yw, yn⟩).drew) := (set4_below HB.out (by omega) _ _).drew
      have HR1 : Hid (RowA (set4 wr (r + 1) (k * 4) ⟨yv, yk, yw, yn⟩).drew (r + 1) 92 n (k + 1) l) := by rw [HY.out]; exact (HR.out.set4 hlt).drew
      have HC1 : Hid (recIs (set4 wr (r + 1) (k * 4) ⟨yv, yk, yw, yn⟩).drew r st en co (.slice (some ⟨r + 1, 0, none⟩) n n)) := recIs.of HC.out (set4_heap_other _ _ _ _ _ (by omega))
      rw [show ((((wr.setCell ⟨r + 1, k * 4, none⟩ (Value.int IntKind.i64 yv)).setCell ⟨r + 1, k * 4 + 1, none⟩ (Value.int IntKind.i32 yk)).setCell ⟨r + 1, k * 4 + 2, none⟩ (Value.bool yw)).setCell ⟨r + 1, k * 4 + 3, none⟩ (Value.bool yn)) = set4 wr (r + 1) (k * 4) ⟨yv, yk, yw, yn⟩ from rfl]
      generalize (set4 wr (r + 1) (k * 4) ⟨yv, yk, yw, yn⟩).drew = W1 at *
      go_wp2
      go_roundw
      case rel => exact ⟨k + 1, by omega, by go_num, HB1.out, HC1.out, HR1.out⟩
      case measure => simp [intOf]; omega
    · obtain rfl : k = n := by omega
      clear hbel hrow hrec
      go_wp2
      go_ret
      rw [← HG.out]
      exact ⟨rfl, HB.out, HC.out, HR.out⟩
end Go.Proofs.Qxb6615561a
