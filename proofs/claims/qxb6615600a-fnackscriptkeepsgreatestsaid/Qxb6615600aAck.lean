/-
  ack, where it changes nothing.
-/
import Derived.Test.Qxb6615600aNew
namespace Go.Proofs.Qxb6615600a
open Go.ChangeShapes Go.WideShapes Go.ChangeAt Go.RowKit
open Go.MuLone

/-- The lock taken and given back: the record is as it was. -/
theorem acks_locked {w : World} {B r c : Nat} {next b e : Int} {err : Value} {k : Bool} (h : Acks w B r c next b e err k) (o : Obj) (hlt : r < w.heap.size) (hcl : c < w.heap.size) :
    Acks (((w.setCell ⟨r, 5, none⟩ (.int .i32 1)).alloc o).setCell ⟨r, 5, none⟩ (.int .i32 0)) B r c next b e err k ∧ Below B w (((w.setCell ⟨r, 5, none⟩ (.int .i32 1)).alloc o).setCell ⟨r, 5, none⟩ (.int .i32 0)) := by
  obtain ⟨⟨c1, c2, n0, b0, e0, hr⟩, ⟨s, hc⟩, hbr, hbc⟩ := h
  have hne : c ≠ r := by intro e; subst e; rw [hc] at hr; cases hr
  refine ⟨⟨⟨c1, c2, n0, b0, e0, ?_⟩, ⟨s, ?_⟩, hbr, hbc⟩, (((Below.refl _ _).setCell (p := ⟨r, 5, none⟩) hbr _).alloc (by simp; omega) _).setCell (p := ⟨r, 5, none⟩) hbr _⟩
  · have h1 := heap_setCell_same _ r 5 _ 50 (.int .i32 1) hr
    have h2 := (Deep.blk_alloc_lt _ o r (by simpa using hlt)).trans h1
    have h3 := heap_setCell_same _ r 5 _ 50 (.int .i32 0) h2
    exact h3
  · rw [Deep.blk_setCell_other _ _ _ _ hne, Deep.blk_alloc_lt _ _ _ (by simpa using hcl), Deep.blk_setCell_other _ _ _ _ hne]
    exact hc

theorem Acks.lt {w : World} {B r c : Nat} {next b e : Int} {err : Value} {k : Bool} (h : Acks w B r c next b e err k) : r < w.heap.size ∧ c < w.heap.size := by
  obtain ⟨⟨c1, c2, n0, b0, e0, hr⟩, ⟨s, hc⟩, _, _⟩ := h
  constructor
  · rcases Nat.lt_or_ge r w.heap.size with hlt | hge
    · exact hlt
    · rw [Array.getElem?_eq_none hge] at hr; cases hr
  · rcases Nat.lt_or_ge c w.heap.size with hlt | hge
    · exact hlt
    · rw [Array.getElem?_eq_none hge] at hc; cases hc

set_option maxHeartbeats 2000000 in
theorem ack_low (B r c : Nat) (next b e : Int) (k : Bool) (n nb ne : Int) (w : World) (h : Acks w B r c next b e .nilIface k) (hn : ¬ next < n) :
    Calls Try.prog 12 #[.pointer (some ⟨r, 0, none⟩), .int .u64 n, .agg #[.int .u64 nb, .int .u64 ne]] w fun x w' => x = .returned .nilIface ∧ Acks w' B r c next b e .nilIface k ∧ Below B w w' := by
  obtain ⟨c2, c5, c7, c8, c9, c10⟩ := h.cells
  have f5 := h.frozen 5
  obtain ⟨hlt, hcl⟩ := h.lt
  have HL : Hid _ := acks_locked h (.cells #[.int .u64 nb, .int .u64 ne] 39) hlt hcl
  clear h
  go_enter_defers Try.func12, Try.ntmps12
  go_wp2_with fail
  refine (lock_free Try.muLib ⟨r, 5, none⟩ (w.alloc (.cells #[.int .u64 nb, .int .u64 ne] 39)) ((World.cell?_alloc_lt _ _ ⟨r, 5, none⟩ hlt).trans c5) ((World.frozen?_of_block (a := ⟨r, 5, none⟩) (Deep.blk_alloc_lt _ _ _ hlt)).trans f5)).mono ?_
  rintro x w' ⟨rfl, rfl⟩
  go_wp2_with fail
  refine leaves_cons (f := 16) (args := #[.pointer (some ⟨r, 5, none⟩)]) (by simp) (by simp [go_sem]) ?_
  refine (unlock_deferred Try.muLib ⟨r, 5, none⟩ .returning _ ?_ ?_).mono ?_
  · exact (World.cell?_alloc_lt _ _ ⟨r, 5, none⟩ (by simpa using hlt)).trans (World.cell?_setCell_same w ⟨r, 5, none⟩ (.int .i32 1) c5)
  · exact (World.frozen?_of_block (a := ⟨r, 5, none⟩) (Deep.blk_alloc_lt _ _ _ (by simpa using hlt))).trans (by simpa using f5)
  rintro x u' w'' ⟨rfl, rfl, rfl⟩
  exact ⟨_, results_tmp rfl _ _ _, rfl, HL.out⟩

set_option maxHeartbeats 2000000 in
theorem ack_bad (B r c : Nat) (next b e : Int) (k : Bool) (t : TypeId) (v : Value) (n nb ne : Int) (w : World) (h : Acks w B r c next b e (.iface t v) k) :
    Calls Try.prog 12 #[.pointer (some ⟨r, 0, none⟩), .int .u64 n, .agg #[.int .u64 nb, .int .u64 ne]] w fun x w' => x = .returned (.iface t v) ∧ Acks w' B r c next b e (.iface t v) k ∧ Below B w w' := by
  obtain ⟨c2, c5, c7, c8, c9, c10⟩ := h.cells
  have f5 := h.frozen 5
  obtain ⟨hlt, hcl⟩ := h.lt
  have HL : Hid _ := acks_locked h (.cells #[.int .u64 nb, .int .u64 ne] 39) hlt hcl
  clear h
  go_enter_defers Try.func12, Try.ntmps12
  go_wp2_with fail
  refine (lock_free Try.muLib ⟨r, 5, none⟩ (w.alloc (.cells #[.int .u64 nb, .int .u64 ne] 39)) ((World.cell?_alloc_lt _ _ ⟨r, 5, none⟩ hlt).trans c5) ((World.frozen?_of_block (a := ⟨r, 5, none⟩) (Deep.blk_alloc_lt _ _ _ hlt)).trans f5)).mono ?_
  rintro x w' ⟨rfl, rfl⟩
  go_wp2_with fail
  refine leaves_cons (f := 16) (args := #[.pointer (some ⟨r, 5, none⟩)]) (by simp) (by simp [go_sem]) ?_
  refine (unlock_deferred Try.muLib ⟨r, 5, none⟩ .returning _ ?_ ?_).mono ?_
  · exact (World.cell?_alloc_lt _ _ ⟨r, 5, none⟩ (by simpa using hlt)).trans (World.cell?_setCell_same w ⟨r, 5, none⟩ (.int .i32 1) c5)
  · exact (World.frozen?_of_block (a := ⟨r, 5, none⟩) (Deep.blk_alloc_lt _ _ _ (by simpa using hlt))).trans (by simpa using f5)
  rintro x u' w'' ⟨rfl, rfl, rfl⟩
  exact ⟨_, results_tmp rfl _ _ _, rfl, HL.out⟩
end Go.Proofs.Qxb6615600a
