/-
  Rows of marks.
-/
import Derived.Test.Qxb6615561aModel
import Derived.ChangeKeysEq
namespace Go.Proofs.Qxb6615561a
open Go.ChangeShapes Go.WideShapes Go.ChangeAt Go.RowKit

theorem under36 : Try.prog.underlying 36 = some (.array 2 22) := by kernel_rfl
theorem info22m : (Try.prog.info? 22).map (fun i => (i.zero, i.size, i.bytes)) = some (some (.int .u64 0), 1, 8) := by kernel_rfl
theorem cells22 : Try.prog.cellsOf 22 = 1 := by kernel_rfl
theorem info36m : (Try.prog.info? 36).map (fun i => (i.zero, i.size, i.bytes)) = some (some (.agg #[.int .u64 0, .int .u64 0]), 2, 16) := by kernel_rfl
theorem under34m : Try.prog.underlying 34 = some (.slice 36) := by kernel_rfl

theorem eq36 (x y : Int) (w : World) : (Op.equalIn 10000 36 (.agg #[.int .u64 x, .int .u64 y]) (.agg #[.int .u64 x, .int .u64 y])).run Try.prog w = .ok true w := by
  obtain ⟨i, hi, _⟩ := Option.map_eq_some_iff.1 info22m
  rw [run_equalIn_array w 9999 _ _ under36 hi, cells22, show List.range 2 = [0, 1] from rfl]
  simp [Op.eqItems]
  go_simp

/-- What 'make' lays: n marks of zero. -/
def madeU (n : Nat) : Array Value := madeCells #[.int .u64 0, .int .u64 0] (n * 2)

theorem run_madeU (n : Nat) (hn : n ≤ 1048576) (w : World) :
    (Instr.makeSlice 34 (.int .i64 (n : Int)) (.int .i64 (n : Int))).run Try.prog w = .ok (.slice (some ⟨w.heap.size, 0, none⟩) n n) (w.alloc (.cells (madeU n) 36)) := by
  obtain ⟨i, hi, hx⟩ := Option.map_eq_some_iff.1 info36m
  simp only [Prod.mk.injEq] at hx
  obtain ⟨hz, hs, hb⟩ := hx
  have h := run_make (P := Try.prog) w 34 36 i _ under34m hi hz .i64 .i64 n n (by omega) (Int.le_refl _) (by rw [hb]; omega) (by omega)
  rw [hs] at h
  simpa [Value.cells, madeU] using h

/-- A row of n marks of the call's own, the first k of them as told. -/
structure RowU (w : World) (g n k : Nat) (f : Nat → Int) : Prop where
  row : ∃ cur, w.heap[g]? = some (.cells cur 36 (0, 0)) ∧ cur.size = n * 2
  all : ∀ i, i < n * 2 → ∃ z, w.cell? ⟨g, i, none⟩ = some (.int .u64 z)
  told : ∀ i, i < k * 2 → w.cell? ⟨g, i, none⟩ = some (.int .u64 (f i))

theorem RowU.of {w w' : World} {g n k : Nat} {f : Nat → Int} (h : RowU w g n k f) (hb : w'.heap[g]? = w.heap[g]?) : RowU w' g n k f :=
  ⟨by rw [hb]; exact h.row, fun i hi => by rw [World.cell?_of_block (w := w) hb]; exact h.all i hi, fun i hi => by rw [World.cell?_of_block (w := w) hb]; exact h.told i hi⟩

theorem RowU.lt {w : World} {g n k : Nat} {f : Nat → Int} (h : RowU w g n k f) : g < w.heap.size := by
  obtain ⟨cur, hc, _⟩ := h.row
  exact lt_of_block hc

theorem RowU.frozen {w : World} {g n k : Nat} {f : Nat → Int} (h : RowU w g n k f) (i : Nat) : w.frozen? ⟨g, i, none⟩ = false := by
  obtain ⟨cur, hc, _⟩ := h.row
  exact frozen_of_row w g _ cur 36 hc

theorem RowU.set {w : World} {g n k : Nat} {f : Nat → Int} (h : RowU w g n k f) (hk : k < n) : RowU ((w.setCell ⟨g, k * 2, none⟩ (.int .u64 (f (k * 2)))).setCell ⟨g, k * 2 + 1, none⟩ (.int .u64 (f (k * 2 + 1)))) g n (k + 1) f := by
  obtain ⟨z0, hz0⟩ := h.all (k * 2) (by omega)
  obtain ⟨z1, hz1⟩ := h.all (k * 2 + 1) (by omega)
  obtain ⟨cur, hc, hs⟩ := h.row
  have hoth : ∀ j, j ≠ k * 2 → j ≠ k * 2 + 1 → ((w.setCell ⟨g, k * 2, none⟩ (.int .u64 (f (k * 2)))).setCell ⟨g, k * 2 + 1, none⟩ (.int .u64 (f (k * 2 + 1)))).cell? ⟨g, j, none⟩ = w.cell? ⟨g, j, none⟩ := fun j h1 h2 => by
    rw [World.cell?_setCell_other _ _ _ _ (by intro e; simp at e <;> omega), World.cell?_setCell_other _ _ _ _ (by intro e; simp at e <;> omega)]
  have h0 : ((w.setCell ⟨g, k * 2, none⟩ (.int .u64 (f (k * 2)))).setCell ⟨g, k * 2 + 1, none⟩ (.int .u64 (f (k * 2 + 1)))).cell? ⟨g, k * 2, none⟩ = some (.int .u64 (f (k * 2))) := by
    rw [World.cell?_setCell_other _ _ _ _ (by intro e; simp at e)]
    exact World.cell?_setCell_same _ _ _ hz0
  have h1 : ((w.setCell ⟨g, k * 2, none⟩ (.int .u64 (f (k * 2)))).setCell ⟨g, k * 2 + 1, none⟩ (.int .u64 (f (k * 2 + 1)))).cell? ⟨g, k * 2 + 1, none⟩ = some (.int .u64 (f (k * 2 + 1))) :=
    World.cell?_setCell_same _ _ _ ((World.cell?_setCell_other _ _ _ _ (by intro e; simp at e)).trans hz1)
  refine ⟨⟨_, heap_setCell_same _ g (k * 2 + 1) _ 36 _ (heap_setCell_same w g (k * 2) cur 36 _ hc), by simpa using hs⟩, fun j hj => ?_, fun j hj => ?_⟩
  · by_cases e0 : j = k * 2
    · subst e0; exact ⟨_, h0⟩
    · by_cases e1 : j = k * 2 + 1
      · subst e1; exact ⟨_, h1⟩
      · rw [hoth j e0 e1]; exact h.all j hj
  · by_cases e0 : j = k * 2
    · subst e0; exact h0
    · by_cases e1 : j = k * 2 + 1
      · subst e1; exact h1
      · rw [hoth j e0 e1]; exact h.told j (by omega)

theorem RowU.made (w : World) (n : Nat) (f : Nat → Int) : RowU (w.alloc (.cells (madeU n) 36)) w.heap.size n 0 f := by
  have hb := Deep.blk_alloc_new w (.cells (madeU n) 36)
  refine ⟨⟨_, hb, by simp [madeU, size_madeCells]⟩, fun i hi => ⟨0, ?_⟩, fun i hi => absurd hi (by omega)⟩
  rw [cell_of_row _ _ _ _ _ _ hb]
  simp only [madeU, madeCells, Array.getElem?_map, Array.getElem?_range, hi, if_true, Option.map_some, Option.some.injEq]
  have h2 : i % 2 = 0 ∨ i % 2 = 1 := by omega
  rcases h2 with h | h <;> simp [h]

/-- The cells of a row of the call's own. -/
theorem row_cells {w : World} {B e sz n : Nat} {v : Value} {xs : List Value} (h : w.ownsRow B e sz v n xs) (hn : 0 < n) :
    ∃ g cap, v = .slice (some ⟨g, 0, none⟩) n cap ∧ n ≤ cap ∧ g < w.heap.size ∧ ∀ i, i < n * sz → w.cell? ⟨g, i, none⟩ = xs[i]? := by
  rcases h.2 with ⟨_, h0⟩ | ⟨g, cap, cur, hv, hb, hg, hc, _, hs, ht⟩
  · omega
  · refine ⟨g, cap, hv, hc, lt_of_block hg, fun i hi => ?_⟩
    rw [cell_of_row w g i cur e _ hg, ← ht, List.getElem?_take, if_pos hi]
    simp

/-- Every mark is a word. -/
def AllU (ms : List Value) : Prop := ∀ u ∈ ms, ∃ z, u = .int .u64 z

theorem AllU.app {ms : List Value} (h : AllU ms) (x y : Int) : AllU (ms ++ [.int .u64 x, .int .u64 y]) := by
  intro u hu
  simp at hu
  rcases hu with hu | rfl | rfl
  · exact h u hu
  · exact ⟨_, rfl⟩
  · exact ⟨_, rfl⟩

theorem AllU.fn {ms : List Value} (h : AllU ms) : ∃ M : Nat → Int, ∀ i, i < ms.length → ms[i]? = some (.int .u64 (M i)) := by
  refine ⟨fun i => match ms[i]? with | some (.int _ z) => z | _ => 0, fun i hi => ?_⟩
  obtain ⟨z, hz⟩ := h ms[i] (List.getElem_mem _)
  simp [List.getElem?_eq_getElem hi, hz]
end Go.Proofs.Qxb6615561a
