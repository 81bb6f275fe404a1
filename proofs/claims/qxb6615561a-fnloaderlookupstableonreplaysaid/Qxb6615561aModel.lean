/-
  lookUpModel: how many keys it lists.
-/
import Derived.Test.Qxb6615561aCalls
namespace Go.Proofs.Qxb6615561a
open Go.ChangeShapes Go.WideShapes Go.ChangeAt Go.RowKit

theorem info21m : (Try.prog.info? 21).map (fun i => (i.zero, i.size, i.bytes)) = some (some (.int .i32 0), 1, 4) := by kernel_rfl
theorem under25m : Try.prog.underlying 25 = some (.slice 21) := by kernel_rfl

/-- What 'make' lays: n numbers of zero. -/
def madeI (n : Nat) : Array Value := madeCells #[.int .i32 0] (n * 1)

theorem run_madeI (n : Nat) (hn : n ≤ 1048576) (w : World) :
    (Instr.makeSlice 25 (.int .i64 (n : Int)) (.int .i64 (n : Int))).run Try.prog w = .ok (.slice (some ⟨w.heap.size, 0, none⟩) n n) (w.alloc (.cells (madeI n) 21)) := by
  obtain ⟨i, hi, hx⟩ := Option.map_eq_some_iff.1 info21m
  simp only [Prod.mk.injEq] at hx
  obtain ⟨hz, hs, hb⟩ := hx
  have h := run_make (P := Try.prog) w 25 21 i _ under25m hi hz .i64 .i64 n n (by omega) (Int.le_refl _) (by rw [hb]; omega) (by omega)
  rw [hs] at h
  simpa [Value.cells, madeI] using h

/-- A row of n numbers of the call's own, the first k of them as told. -/
structure RowI (w : World) (g n k : Nat) (f : Nat → Int) : Prop where
  row : ∃ cur, w.heap[g]? = some (.cells cur 21 (0, 0)) ∧ cur.size = n
  all : ∀ i, i < n → ∃ z, w.cell? ⟨g, i, none⟩ = some (.int .i32 z)
  told : ∀ i, i < k → w.cell? ⟨g, i, none⟩ = some (.int .i32 (f i))

theorem RowI.of {w w' : World} {g n k : Nat} {f : Nat → Int} (h : RowI w g n k f) (hb : w'.heap[g]? = w.heap[g]?) : RowI w' g n k f :=
  ⟨by rw [hb]; exact h.row, fun i hi => by rw [World.cell?_of_block (w := w) hb]; exact h.all i hi, fun i hi => by rw [World.cell?_of_block (w := w) hb]; exact h.told i hi⟩

theorem RowI.lt {w : World} {g n k : Nat} {f : Nat → Int} (h : RowI w g n k f) : g < w.heap.size := by
  obtain ⟨cur, hc, _⟩ := h.row
  exact lt_of_block hc

theorem RowI.frozen {w : World} {g n k : Nat} {f : Nat → Int} (h : RowI w g n k f) (i : Nat) : w.frozen? ⟨g, i, none⟩ = false := by
  obtain ⟨cur, hc, _⟩ := h.row
  exact frozen_of_row w g _ cur 21 hc

theorem RowI.set {w : World} {g n k : Nat} {f : Nat → Int} (h : RowI w g n k f) (i : Nat) (hi : i < n) (z : Int) (k' : Nat) (hk : ∀ j, j < k' → (j = i ∧ z = f i) ∨ (j ≠ i ∧ j < k)) : RowI (w.setCell ⟨g, i, none⟩ (.int .i32 z)) g n k' f := by
  obtain ⟨z0, hz0⟩ := h.all i hi
  have hsame : (w.setCell ⟨g, i, none⟩ (.int .i32 z)).cell? ⟨g, i, none⟩ = some (.int .i32 z) := World.cell?_setCell_same _ _ _ hz0
  have hoth : ∀ j, j ≠ i → (w.setCell ⟨g, i, none⟩ (.int .i32 z)).cell? ⟨g, j, none⟩ = w.cell? ⟨g, j, none⟩ := fun j hj => World.cell?_setCell_other _ _ _ _ (by intro e; simp at e <;> omega)
  obtain ⟨cur, hc, hs⟩ := h.row
  refine ⟨⟨_, heap_setCell_same w g i cur 21 _ hc, by simpa using hs⟩, fun j hj => ?_, fun j hj => ?_⟩
  · by_cases e : j = i
    · subst e; exact ⟨z, hsame⟩
    · rw [hoth j e]; exact h.all j hj
  · rcases hk j hj with ⟨rfl, rfl⟩ | ⟨e, hjk⟩
    · exact hsame
    · rw [hoth j e]; exact h.told j hjk

theorem RowI.made (w : World) (n : Nat) (f : Nat → Int) : RowI (w.alloc (.cells (madeI n) 21)) w.heap.size n 0 f := by
  have hb := Deep.blk_alloc_new w (.cells (madeI n) 21)
  refine ⟨⟨_, hb, by simp [madeI, size_madeCells]⟩, fun i hi => ⟨0, ?_⟩, fun i hi => absurd hi (Nat.not_lt_zero _)⟩
  rw [cell_of_row _ _ _ _ _ _ hb]
  simp [madeI, madeCells, hi, Nat.mod_one]
end Go.Proofs.Qxb6615561a
