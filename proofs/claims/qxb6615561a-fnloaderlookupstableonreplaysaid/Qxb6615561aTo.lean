/-
  toZZAccesses.
-/
import Derived.Test.Qxb6615561aHas
import Derived.Deep.OwnRows
import Derived.Lib.SliceRun
namespace Go.Proofs.Qxb6615561a
open Go.ChangeShapes Go.WideShapes Go.ChangeAt Go.RowKit

theorem Try.info66 : (Try.prog.info? 66).map (fun i => (i.zero, i.size, i.bytes)) = some (some (.agg #[.int .i64 0, .int .i32 0, .bool false, .bool false]), 4, 16) := by kernel_rfl
theorem Try.info92 : (Try.prog.info? 92).map (fun i => (i.zero, i.size, i.bytes)) = some (some (.agg #[.int .i64 0, .int .i32 0, .bool false, .bool false]), 4, 16) := by kernel_rfl

def zero4 : Array Value := #[.int .i64 0, .int .i32 0, .bool false, .bool false]
/-- What 'make' lays: n accesses of zero. -/
def made (n : Nat) : Array Value := madeCells zero4 (n * 4)
theorem size_made (n : Nat) : (made n).size = n * 4 := size_madeCells _ _

theorem run_made (t e : TypeId) (ht : Try.prog.underlying t = some (.slice e)) (hi : (Try.prog.info? e).map (fun i => (i.zero, i.size, i.bytes)) = some (some (.agg zero4), 4, 16)) (n : Nat) (hn : n ≤ 1048576) (w : World) :
    (Instr.makeSlice t (.int .i64 (n : Int)) (.int .i64 (n : Int))).run Try.prog w = .ok (.slice (some ⟨w.heap.size, 0, none⟩) n n) (w.alloc (.cells (made n) e)) := by
  obtain ⟨i, hi, hx⟩ := Option.map_eq_some_iff.1 hi
  simp only [Prod.mk.injEq] at hx
  obtain ⟨hz, hs, hb⟩ := hx
  have h := run_make (P := Try.prog) w t e i _ ht hi hz .i64 .i64 n n (by omega) (Int.le_refl _) (by rw [hb]; omega) (by omega)
  rw [hs] at h
  simpa [Value.cells, made] using h

/-- A row of n accesses of the call's own, the first k of them as told. -/
structure RowA (w : World) (g t n k : Nat) (l : List Acc) : Prop where
  row : ∃ cur, w.heap[g]? = some (.cells cur t (0, 0)) ∧ cur.size = n * 4
  acc : ∀ i, i < k → accAt w g (i * 4) (l.getD i acc0)

theorem RowA.lt {w : World} {g t n k : Nat} {l : List Acc} (h : RowA w g t n k l) : g < w.heap.size := by
  obtain ⟨cur, hc, _⟩ := h.row
  rcases Nat.lt_or_ge g w.heap.size with hlt | hge
  · exact hlt
  · rw [Array.getElem?_eq_none hge] at hc; cases hc

/-- Element k's four cells are there, and may be written. -/
theorem RowA.there {w : World} {g t n k : Nat} {l : List Acc} (h : RowA w g t n k l) (i : Nat) (hi : i < n) :
    ∃ v0 v1 v2 v3, w.cell? ⟨g, i * 4, none⟩ = some v0 ∧ w.cell? ⟨g, i * 4 + 1, none⟩ = some v1 ∧ w.cell? ⟨g, i * 4 + 2, none⟩ = some v2 ∧ w.cell? ⟨g, i * 4 + 3, none⟩ = some v3 ∧
      w.frozen? ⟨g, i * 4, none⟩ = false ∧ w.frozen? ⟨g, i * 4 + 1, none⟩ = false ∧ w.frozen? ⟨g, i * 4 + 2, none⟩ = false ∧ w.frozen? ⟨g, i * 4 + 3, none⟩ = false := by
  obtain ⟨cur, hc, hs⟩ := h.row
  refine ⟨cur[i * 4]'(by omega), cur[i * 4 + 1]'(by omega), cur[i * 4 + 2]'(by omega), cur[i * 4 + 3]'(by omega), ?_, ?_, ?_, ?_, frozen_of_row w g _ cur t hc, frozen_of_row w g _ cur t hc, frozen_of_row w g _ cur t hc, frozen_of_row w g _ cur t hc⟩
  all_goals rw [cell_of_row w g _ cur t _ hc]; exact Array.getElem?_eq_getElem _

/-- An access stored at place 'o' of block g. -/
def set4 (w : World) (g o : Nat) (y : Acc) : World :=
  (((w.setCell ⟨g, o, none⟩ (.int .i64 y.value)).setCell ⟨g, o + 1, none⟩ (.int .i32 y.key)).setCell ⟨g, o + 2, none⟩ (.bool y.write)).setCell ⟨g, o + 3, none⟩ (.bool y.none)

theorem set4_below {B : Nat} {a w : World} (h : Below B a w) {g : Nat} (hg : B ≤ g) (o : Nat) (y : Acc) : Below B a (set4 w g o y) :=
  (((h.setCell (p := ⟨g, o, none⟩) hg _).setCell (p := ⟨g, o + 1, none⟩) hg _).setCell (p := ⟨g, o + 2, none⟩) hg _).setCell (p := ⟨g, o + 3, none⟩) hg _

theorem set4_row {w : World} {g t n : Nat} (h : ∃ cur, w.heap[g]? = some (.cells cur t (0, 0)) ∧ cur.size = n * 4) (o : Nat) (y : Acc) :
    ∃ cur, (set4 w g o y).heap[g]? = some (.cells cur t (0, 0)) ∧ cur.size = n * 4 := by
  obtain ⟨cur, hc, hs⟩ := h
  have h1 := heap_setCell_same w g o cur t (.int .i64 y.value) hc
  have h2 := heap_setCell_same _ g (o + 1) _ t (.int .i32 y.key) h1
  have h3 := heap_setCell_same _ g (o + 2) _ t (.bool y.write) h2
  have h4 := heap_setCell_same _ g (o + 3) _ t (.bool y.none) h3
  exact ⟨_, h4, by simpa using hs⟩

theorem set4_heap_other (w : World) (g o : Nat) (y : Acc) (k : Nat) (h : k ≠ g) : (set4 w g o y).heap[k]? = w.heap[k]? := by
  unfold set4
  rw [Deep.blk_setCell_other _ _ _ _ h, Deep.blk_setCell_other _ _ _ _ h, Deep.blk_setCell_other _ _ _ _ h, Deep.blk_setCell_other _ _ _ _ h]

theorem set4_size (w : World) (g o : Nat) (y : Acc) : (set4 w g o y).heap.size = w.heap.size := by simp [set4]

theorem set4_cell_other (w : World) (g o : Nat) (y : Acc) (o' : Nat) (h : o' + 1 ≤ o ∨ o + 4 ≤ o') : (set4 w g o y).cell? ⟨g, o', none⟩ = w.cell? ⟨g, o', none⟩ := by
  unfold set4
  rw [World.cell?_setCell_other _ _ _ _ (by intro e; simp at e <;> omega), World.cell?_setCell_other _ _ _ _ (by intro e; simp at e <;> omega), World.cell?_setCell_other _ _ _ _ (by intro e; simp at e <;> omega), World.cell?_setCell_other _ _ _ _ (by intro e; simp at e <;> omega)]

theorem set4_acc {w : World} {g o : Nat} {v0 v1 v2 v3 : Value} (e0 : w.cell? ⟨g, o, none⟩ = some v0) (e1 : w.cell? ⟨g, o + 1, none⟩ = some v1) (e2 : w.cell? ⟨g, o + 2, none⟩ = some v2) (e3 : w.cell? ⟨g, o + 3, none⟩ = some v3) (y : Acc) : accAt (set4 w g o y) g o y := by
  unfold set4
  refine ⟨?_, ?_, ?_, ?_⟩
  · rw [World.cell?_setCell_other _ _ _ _ (by intro e; simp at e), World.cell?_setCell_other _ _ _ _ (by intro e; simp at e), World.cell?_setCell_other _ _ _ _ (by intro e; simp at e)]
    exact World.cell?_setCell_same _ _ _ e0
  · rw [World.cell?_setCell_other _ _ _ _ (by intro e; simp at e), World.cell?_setCell_other _ _ _ _ (by intro e; simp at e)]
    exact World.cell?_setCell_same _ _ _ ((World.cell?_setCell_other _ _ _ _ (by intro e; simp at e)).trans e1)
  · rw [World.cell?_setCell_other _ _ _ _ (by intro e; simp at e)]
    exact World.cell?_setCell_same _ _ _ ((World.cell?_setCell_other _ _ _ _ (by intro e; simp at e)).trans ((World.cell?_setCell_other _ _ _ _ (by intro e; simp at e)).trans e2))
  · exact World.cell?_setCell_same _ _ _ ((World.cell?_setCell_other _ _ _ _ (by intro e; simp at e)).trans ((World.cell?_setCell_other _ _ _ _ (by intro e; simp at e)).trans ((World.cell?_setCell_other _ _ _ _ (by intro e; simp at e)).trans e3)))

theorem RowA.set4 {w : World} {g t n k : Nat} {l : List Acc} (h : RowA w g t n k l) (hk : k < n) : RowA (set4 w g (k * 4) (l.getD k acc0)) g t n (k + 1) l := by
  refine ⟨set4_row h.row _ _, fun i hi => ?_⟩
  by_cases hik : i = k
  · subst hik
    obtain ⟨v0, v1, v2, v3, e0, e1, e2, e3, _⟩ := h.there i hk
    exact set4_acc e0 e1 e2 e3 _
  · obtain ⟨h0, h1, h2, h3⟩ := h.acc i (by omega)
    refine ⟨?_, ?_, ?_, ?_⟩
    all_goals rw [set4_cell_other _ _ _ _ _ (by omega)]; assumption

theorem RowA.drew {w : World} {g t n k : Nat} {l : List Acc} (h : RowA w g t n k l) : RowA w.drew g t n k l :=
  ⟨h.row, fun i hi => accAt_of (h.acc i hi) rfl⟩

theorem RowA.of {w w' : World} {g t n k : Nat} {l : List Acc} (h : RowA w g t n k l) (hb : w'.heap[g]? = w.heap[g]?) : RowA w' g t n k l :=
  ⟨by rw [hb]; exact h.row, fun i hi => accAt_of (h.acc i hi) hb⟩

set_option maxHeartbeats 2000000 in
theorem to_some (x : Addr) (n c : Nat) (l : List Acc) (w : World) (hm : n ≤ 1048576) (hz : HasA w (some x) n l) :
    Calls Try.prog 24 #[.slice (some x) n c] w fun e w' => e = .returned (.slice (some ⟨w.heap.size, 0, none⟩) n n) ∧ Below w.heap.size w w' ∧ RowA w' w.heap.size 66 n n l := by
  have hmk := run_made 53 66 Try.underlying53 Try.info66 n hm
  have hnil := fun w => Lib.run_eql_slice_nil (P := Try.prog) w 47 67 (some x) n c 0 0 Try.underlying47
  have HZ : Hid (HasA w (some x) n l) := hz
  clear hz
  obtain ⟨g, hg⟩ : ∃ g, g = w.heap.size := ⟨_, rfl⟩
  go_enter Try.func24, Try.ntmps24
  go_wp2
  rw [← hg]
  have HG : Hid (g = w.heap.size) := hg
  clear hg hmk hnil
  go_loopw [4] (fun i wr => ∃ k : Nat, k ≤ n ∧ i = .int .i64 k ∧ Below w.heap.size w wr ∧ RowA wr g 66 n k l) (fun i _ => n - (intOf i).toNat)
  case atStart =>
    refine ⟨0, Nat.zero_le _, rfl, (Below.refl _ _).alloc (Nat.le_refl _) _, ⟨_, ?_, size_made n⟩, fun i hi => absurd hi (Nat.not_lt_zero _)⟩
    rw [HG.out]; exact Deep.blk_alloc_new _ _
  case round =>
    obtain ⟨k, hk, rfl, hbel, hrow⟩ := hrel
    have HB : Hid _ := hbel
    have HR : Hid _ := hrow
    by_cases hlt : k < n
    · obtain ⟨b, off, hx, hb, hcell⟩ := HZ.out.at' (by omega)
      obtain rfl := Option.some.inj hx
      obtain ⟨c1, c2, c3, c4⟩ := accAt_of (hcell k hlt) (hbel.block b hb)
      obtain ⟨y, hy⟩ : ∃ y, y = l.getD k acc0 := ⟨_, rfl⟩
      have HY : Hid (y = l.getD k acc0) := hy
      rw [← hy] at c1 c2 c3 c4
      obtain ⟨v0, v1, v2, v3, e0, e1, e2, e3, f0, f1, f2, f3⟩ := hrow.there k hlt
      clear hx hcell hy hbel hrow
      have hk0 : (0 : Int) ≤ (k : Int) := by omega
      have hbg : b ≠ g := by have := HG.out; omega
      have hgb : g ≠ b := fun e => hbg e.symm
      have hk1 : (k : Int) < (n : Int) := by omega
      obtain ⟨yv, yk, yw, yn⟩ := y
      simp only at c1 c2 c3 c4
      go_wp2
      go_region_held3 (fun w' => w'.cell? ⟨b, off + k * 4, none⟩ = some (.int .i64 yv) ∧ w'.cell? ⟨b, off + k * 4 + 1, none⟩ = some (.int .i32 yk) ∧ w'.cell? ⟨b, off + k * 4 + 2, none⟩ = some (.bool yw) ∧ w'.cell? ⟨b, off + k * 4 + 3, none⟩ = some (.bool yn)) (go_keep) (fail)
      have HB1 : Hid (Below w.heap.size w (set4 wr g (k * 4) ⟨yv, yk, yw, yn⟩).drew) := (set4_below HB.out (by rw [← HG.out]; exact Nat.le_refl _) _ _).drew
      have HR1 : Hid (RowA (set4 wr g (k * 4) ⟨yv, yk, yw, yn⟩).drew g 66 n (k + 1) l) := by rw [HY.out]; exact (HR.out.set4 hlt).drew
      rw [show ((((wr.setCell ⟨g, k * 4, none⟩ (Value.int IntKind.i64 yv)).setCell ⟨g, k * 4 + 1, none⟩ (Value.int IntKind.i32 yk)).setCell ⟨g, k * 4 + 2, none⟩ (Value.bool yw)).setCell ⟨g, k * 4 + 3, none⟩ (Value.bool yn)) = set4 wr g (k * 4) ⟨yv, yk, yw, yn⟩ from rfl]
      generalize (set4 wr g (k * 4) ⟨yv, yk, yw, yn⟩).drew = W1 at *
      go_wp2
      go_roundw
      case rel => exact ⟨k + 1, by omega, by go_num, HB1.out, HR1.out⟩
      case measure => simp [intOf]; omega
    · obtain rfl : k = n := by omega
      clear hbel hrow
      go_wp2
      go_ret
      rw [← HG.out]
      exact ⟨rfl, by rw [HG.out]; exact HB.out, HR.out⟩

theorem to_nil (w : World) : Calls Try.prog 24 #[.slice none 0 0] w fun e w' => e = .returned (.slice none 0 0) ∧ w' = w := by
  have hnil := fun w => Lib.run_eql_slice_nil (P := Try.prog) w 47 67 none 0 0 0 0 Try.underlying47
  go_enter Try.func24, Try.ntmps24
  go_wp2
  go_ret
  exact ⟨rfl, rfl⟩
end Go.Proofs.Qxb6615561a
