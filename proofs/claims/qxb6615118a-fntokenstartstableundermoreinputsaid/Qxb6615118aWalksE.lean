/-
  What both laws use: the clone of whatever slice, a cut as one equation, a recorder in new memory.
-/
import Derived.Test.Qxb6615118aWalksD
namespace Go.Proofs.Qxb6615118a
open Go.ChangeShapes Go.WideShapes Go.ChangeAt Go.RowKit
open Plain

theorem clone_any (a : Option Addr) (n c : Nat) (zs : List Int) (w : World) (hm : n ≤ 1048576) (hz : Has w a n zs) (h0 : a = none → n = 0 ∧ c = 0) :
    Calls Try.prog 6 #[.slice a n c] w fun e w' => ∃ a1, e = .returned (.slice a1 n n) ∧ Has w' a1 n zs ∧ Below w.heap.size w w' := by
  cases a with
  | none =>
    obtain ⟨rfl, rfl⟩ := h0 rfl
    refine (clone_nil w).mono ?_
    rintro e w' ⟨rfl, rfl⟩
    exact ⟨none, rfl, hz, Below.refl _ _⟩
  | some x =>
    refine (clone_some x n c zs w hm hz).mono ?_
    rintro e w' ⟨rfl, rfl⟩
    exact ⟨_, rfl, Has.alloc w zs n hz.len, (Below.refl _ _).alloc (Nat.le_refl _) _⟩

theorem Try.elem22 : Try.prog.elem 22 = 5 := by kernel_rfl
theorem Try.under22 : Try.prog.underlying 22 = some (.slice (Try.prog.elem 22)) := by kernel_rfl
theorem Try.sizeOf5 (w : World) : (sizeOf (Try.prog.elem 22)).run Try.prog w = .ok 1 w := by kernel_rfl

theorem run_cut (a : Option Addr) (n c k : Nat) (i : Int) (hi : i = k) (hk : k ≤ n) (w : World) :
    (Instr.slice 22 (.slice a n c) (some (.int .i64 i)) none none).run Try.prog w = .ok (.slice (cutAt a c k) (n - k) (c - k)) w := by
  subst hi
  rw [run_slice_l (P := Try.prog) w 22 a n c Try.under22 .i64 k (by omega) (by omega)]
  rw [Try.sizeOf5]
  simp [Result.andThen, sliced, cutAt]

/-- What was there stays there, in a world that only grew. -/
theorem Has.below {w w' : World} {a : Option Addr} {n : Nat} {zs : List Int} (h : Has w a n zs) (hb : Below w.heap.size w w') : Has w' a n zs := by
  refine ⟨h.len, fun hn => ?_⟩
  obtain ⟨b, off, ha, hlt, hc⟩ := h.at' hn
  exact ⟨b, off, ha, Nat.lt_of_lt_of_le hlt hb.size, fun i hi => by rw [hb.cell (p := ⟨b, off + i, none⟩) hlt]; exact hc i hi⟩

theorem below_drewN {B : Nat} {w w' : World} (h : Below B w w') (q : Nat) : Below B w (w'.drewN q) :=
  ⟨h.os, h.tape, h.output, h.size, h.block⟩

theorem recCell1 (w : World) (a : Option Addr) (n c : Nat) (base : Int) : (w.alloc (.cells (recCells a n c base) 34)).cell? ⟨w.heap.size, 1, none⟩ = some (.slice a n c) := by
  rw [World.cell?_alloc_new]; rfl
theorem recCell2 (w : World) (a : Option Addr) (n c : Nat) (base : Int) : (w.alloc (.cells (recCells a n c base) 34)).cell? ⟨w.heap.size, 2, none⟩ = some (.int .i64 base) := by
  rw [World.cell?_alloc_new]; rfl

end Go.Proofs.Qxb6615118a
