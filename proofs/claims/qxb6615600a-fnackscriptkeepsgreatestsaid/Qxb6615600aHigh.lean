/-
  ack, where the position moves.
-/
import Derived.Test.Qxb6615600aAck
namespace Go.Proofs.Qxb6615600a
open Go.ChangeShapes Go.WideShapes Go.ChangeAt Go.RowKit
open Go.MuLone
open Go.Conc (scase heap_setChan below_setChan)

/-- An acks under its lock, the handed span in block q. -/
structure Held (w : World) (B r c q : Nat) (next b e : Int) (err : Value) (k : Bool) (nb ne : Int) : Prop where
  rec' : ∃ c1 c2 n0 b0 e0, w.heap[r]? = some (.cells ((arr c c1 c2 next b e err n0 b0 e0).setIfInBounds 5 (.int .i32 1)) 50 (0, 0))
  chan : ∃ s, w.heap[c]? = some (.chan 1 (buf k) false s 0 false)
  box : w.heap[q]? = some (.cells #[.int .u64 nb, .int .u64 ne] 39 (0, 0))
  br : B ≤ r
  bc : B ≤ c
  far : q ≠ r

theorem Held.cells {w : World} {B r c q : Nat} {next b e : Int} {err : Value} {k : Bool} {nb ne : Int} (h : Held w B r c q next b e err k nb ne) :
    w.cell? ⟨r, 2, none⟩ = some (.chan (some c)) ∧ w.cell? ⟨r, 5, none⟩ = some (.int .i32 1) ∧ w.cell? ⟨r, 7, none⟩ = some (.int .u64 next) ∧ w.cell? ⟨r, 8, none⟩ = some (.int .u64 b) ∧ w.cell? ⟨r, 9, none⟩ = some (.int .u64 e) ∧ w.cell? ⟨r, 10, none⟩ = some err ∧
      w.cell? ⟨q, 0, none⟩ = some (.int .u64 nb) ∧ w.cell? ⟨q, 1, none⟩ = some (.int .u64 ne) := by
  obtain ⟨c1, c2, n0, b0, e0, hr⟩ := h.rec'
  refine ⟨?_, ?_, ?_, ?_, ?_, ?_, ?_, ?_⟩
  iterate 6 (rw [cell_of_row w r _ _ _ _ hr]; rfl)
  all_goals rw [cell_of_row w q _ _ _ _ h.box]; rfl

theorem Held.frozen {w : World} {B r c q : Nat} {next b e : Int} {err : Value} {k : Bool} {nb ne : Int} (h : Held w B r c q next b e err k nb ne) (i : Nat) : w.frozen? ⟨r, i, none⟩ = false := by
  obtain ⟨c1, c2, n0, b0, e0, hr⟩ := h.rec'
  exact frozen_of_row w r _ _ _ hr

theorem held_of {w : World} {B r c : Nat} {next b e : Int} {err : Value} {k : Bool} (h : Acks w B r c next b e err k) (nb ne : Int) :
    Held ((w.setCell ⟨r, 5, none⟩ (.int .i32 1)).alloc (.cells #[.int .u64 nb, .int .u64 ne] 39)) B r c w.heap.size next b e err k nb ne := by
  obtain ⟨hlt, hcl⟩ := h.lt
  obtain ⟨⟨c1, c2, n0, b0, e0, hr⟩, ⟨s, hc⟩, hbr, hbc⟩ := h
  have hne : c ≠ r := by intro e; subst e; rw [hc] at hr; cases hr
  refine ⟨⟨c1, c2, n0, b0, e0, ?_⟩, ⟨s, ?_⟩, ?_, hbr, hbc, by omega⟩
  · rw [Deep.blk_alloc_lt _ _ _ (by simpa using hlt)]
    exact heap_setCell_same _ r 5 _ 50 (.int .i32 1) hr
  · rw [Deep.blk_alloc_lt _ _ _ (by simpa using hcl), Deep.blk_setCell_other _ _ _ _ hne]
    exact hc
  · have := Deep.blk_alloc_new (w.setCell ⟨r, 5, none⟩ (.int .i32 1)) (.cells #[.int .u64 nb, .int .u64 ne] 39)
    simpa using this

theorem held_set {w : World} {B r c q : Nat} {next b e : Int} {err : Value} {k : Bool} {nb ne : Int} (h : Held w B r c q next b e err k nb ne) (n : Int) :
    Held (((w.setCell ⟨r, 7, none⟩ (.int .u64 n)).setCell ⟨r, 8, none⟩ (.int .u64 nb)).setCell ⟨r, 9, none⟩ (.int .u64 ne)).drew B r c q n nb ne err k nb ne := by
  obtain ⟨⟨c1, c2, n0, b0, e0, hr⟩, ⟨s, hc⟩, hbox, hbr, hbc, hfar⟩ := h
  have hne : c ≠ r := by intro e; subst e; rw [hc] at hr; cases hr
  refine ⟨⟨c1, c2, n0, b0, e0, ?_⟩, ⟨s, ?_⟩, ?_, hbr, hbc, hfar⟩
  · have h1 := heap_setCell_same _ r 7 _ 50 (.int .u64 n) hr
    have h2 := heap_setCell_same _ r 8 _ 50 (.int .u64 nb) h1
    have h3 := heap_setCell_same _ r 9 _ 50 (.int .u64 ne) h2
    exact h3
  · show ((((w.setCell ⟨r, 7, none⟩ (.int .u64 n)).setCell ⟨r, 8, none⟩ (.int .u64 nb)).setCell ⟨r, 9, none⟩ (.int .u64 ne))).heap[c]? = _
    rw [Deep.blk_setCell_other _ _ _ _ hne, Deep.blk_setCell_other _ _ _ _ hne, Deep.blk_setCell_other _ _ _ _ hne]
    exact hc
  · show ((((w.setCell ⟨r, 7, none⟩ (.int .u64 n)).setCell ⟨r, 8, none⟩ (.int .u64 nb)).setCell ⟨r, 9, none⟩ (.int .u64 ne))).heap[q]? = _
    rw [Deep.blk_setCell_other _ _ _ _ hfar, Deep.blk_setCell_other _ _ _ _ hfar, Deep.blk_setCell_other _ _ _ _ hfar]
    exact hbox

theorem held_kick {w : World} {B r c q : Nat} {next b e : Int} {err : Value} {k : Bool} {nb ne : Int} (h : Held w B r c q next b e err k nb ne) (s : Nat) :
    Held (w.setChan c 1 #[.agg #[]] false s 0 false) B r c q next b e err true nb ne := by
  obtain ⟨⟨c1, c2, n0, b0, e0, hr⟩, ⟨s', hc⟩, hbox, hbr, hbc, hfar⟩ := h
  have hne : c ≠ r := by intro e; subst e; rw [hc] at hr; cases hr
  have hne2 : c ≠ q := by intro e; subst e; rw [hc] at hbox; cases hbox
  have hcl : c < w.heap.size := by
    rcases Nat.lt_or_ge c w.heap.size with hlt | hge
    · exact hlt
    · rw [Array.getElem?_eq_none hge] at hc; cases hc
  have other : ∀ i, c ≠ i → (w.setChan c 1 #[.agg #[]] false s 0 false).heap[i]? = w.heap[i]? := fun i hi => by simp [World.setChan, Array.getElem?_setIfInBounds_ne hi]
  refine ⟨⟨c1, c2, n0, b0, e0, ?_⟩, ⟨s, ?_⟩, ?_, hbr, hbc, hfar⟩
  · rw [other r hne]; exact hr
  · exact heap_setChan w c 1 #[.agg #[]] false s 0 false hcl
  · rw [other q hne2]; exact hbox

theorem acks_unlock {w : World} {B r c q : Nat} {next b e : Int} {err : Value} {k : Bool} {nb ne : Int} (h : Held w B r c q next b e err k nb ne) :
    Acks (w.setCell ⟨r, 5, none⟩ (.int .i32 0)) B r c next b e err k := by
  obtain ⟨⟨c1, c2, n0, b0, e0, hr⟩, ⟨s, hc⟩, hbox, hbr, hbc, hfar⟩ := h
  have hne : c ≠ r := by intro e; subst e; rw [hc] at hr; cases hr
  refine ⟨⟨c1, c2, n0, b0, e0, ?_⟩, ⟨s, ?_⟩, hbr, hbc⟩
  · exact heap_setCell_same _ r 5 _ 50 (.int .i32 0) hr
  · rw [Deep.blk_setCell_other _ _ _ _ hne]; exact hc

theorem bd (w : World) : (Instr.build 42 #[]).run Try.prog w = .ok (.agg #[]) w := run_build w 42 #[] #[] (by kernel_rfl)

set_option maxHeartbeats 4000000 in
theorem ack_high (B r c : Nat) (next b e : Int) (k : Bool) (n nb ne : Int) (w : World) (h : Acks w B r c next b e .nilIface k) (hn : next < n) :
    Calls Try.prog 12 #[.pointer (some ⟨r, 0, none⟩), .int .u64 n, .agg #[.int .u64 nb, .int .u64 ne]] w fun x w' => x = .returned .nilIface ∧ Acks w' B r c n nb ne .nilIface true ∧ Below B w w' := by
  obtain ⟨c2, c5, c7, c8, c9, c10⟩ := h.cells
  have f5 := h.frozen 5
  obtain ⟨hlt, hcl⟩ := h.lt
  refine calls_of_wpN Try.func12 rfl ?_
  simp only [Try.ntmps12, List.size_toArray, List.length_cons, List.length_nil, Nat.reduceAdd, Nat.reduceSub, Array.replicate_succ, Array.replicate_zero, List.push_toArray, List.append_toArray, List.nil_append, List.cons_append]
  refine wpN_seq (fun K hK => ?_)
  go_wp2
  refine wpN_seq (fun K hK => ?_)
  go_wp2_with fail
  refine (lock_free Try.muLib ⟨r, 5, none⟩ (w.alloc (.cells #[.int .u64 nb, .int .u64 ne] 39)) ((World.cell?_alloc_lt _ _ ⟨r, 5, none⟩ hlt).trans c5) ((World.frozen?_of_block (a := ⟨r, 5, none⟩) (Deep.blk_alloc_lt _ _ _ hlt)).trans f5)).mono ?_
  rintro x w' ⟨rfl, rfl⟩
  go_wp2_with fail
  -- the world behind the lock, under one name
  have HW : Hid (Held ((w.setCell ⟨r, 5, none⟩ (.int .i32 1)).alloc (.cells #[.int .u64 nb, .int .u64 ne] 39)) B r c w.heap.size next b e .nilIface k nb ne) := held_of h _ _
  have HB : Hid (Below B w ((w.setCell ⟨r, 5, none⟩ (.int .i32 1)).alloc (.cells #[.int .u64 nb, .int .u64 ne] 39))) := ((Below.refl _ _).setCell (p := ⟨r, 5, none⟩) h.br _).alloc (by have := h.br; simp; omega) _
  clear c2 c5 c7 c8 c9 c10 f5 hlt hcl h
  generalize (w.setCell ⟨r, 5, none⟩ (.int .i32 1)).alloc (.cells #[.int .u64 nb, .int .u64 ne] 39) = W1 at *
  generalize w.heap.size = q at *
  obtain ⟨c2, c5, c7, c8, c9, c10, q0, q1⟩ := HW.out.cells
  have f7 := HW.out.frozen 7
  have f8 := HW.out.frozen 8
  have f9 := HW.out.frozen 9
  have hqr : q ≠ r := HW.out.far
  have hrq : r ≠ q := fun e => hqr e.symm
  refine wpN_seq (fun K hK => ?_)
  go_wp2_with fail
  refine wpN_seq (fun K hK => ?_)
  go_wp2_with fail
  refine wpN_seqN (fun K hK => ?_)
  refine wpN_seq (fun K2 hK2 => ?_)
  go_wp2_with fail
  refine wpN_cond (t := true) (by simp [Act.eval]) ?_
  simp only [if_true]
  refine wpN_seq (fun K3 hK3 => ?_)
  go_region
  have HW2 : Hid (Held (((W1.setCell ⟨r, 7, none⟩ (.int .u64 n)).setCell ⟨r, 8, none⟩ (.int .u64 nb)).setCell ⟨r, 9, none⟩ (.int .u64 ne)).drew B r c q n nb ne .nilIface k nb ne) := held_set HW.out n
  have HB2 : Hid (Below B w (((W1.setCell ⟨r, 7, none⟩ (.int .u64 n)).setCell ⟨r, 8, none⟩ (.int .u64 nb)).setCell ⟨r, 9, none⟩ (.int .u64 ne)).drew) := (((HB.out.setCell (p := ⟨r, 7, none⟩) HW.out.br _).setCell (p := ⟨r, 8, none⟩) HW.out.br _).setCell (p := ⟨r, 9, none⟩) HW.out.br _).drew
  clear c2 c5 c7 c8 c9 c10 q0 q1 f7 f8 f9
  generalize (((W1.setCell ⟨r, 7, none⟩ (.int .u64 n)).setCell ⟨r, 8, none⟩ (.int .u64 nb)).setCell ⟨r, 9, none⟩ (.int .u64 ne)).drew = W2 at *
  clear HW HB
  obtain ⟨c2, c5, _⟩ := HW2.out.cells
  obtain ⟨s, hs⟩ := HW2.out.chan
  have hbd := bd
  go_wp2_with fail
  refine wpN_seq (fun K4 hK4 => ?_)
  go_wp2_with fail
  refine wpN_seqN (fun K5 hK5 => ?_)
  cases k with
  | false =>
    refine wpN_select_room rfl (c := c) (v := .agg #[]) (z := .agg #[]) (cap := 1) (buf := #[]) (s := s) (r := 0) (tm := false) (by simp [go_sem, execOp, scase, Act.eval]) hs (by simp) ?_
    go_wp2_with fail
    have HW3 : Hid (Held (W2.setChan c 1 #[.agg #[]] false (s + 1) 0 false) B r c q n nb ne .nilIface true nb ne) := held_kick HW2.out (s + 1)
    have HB3 : Hid (Below B w (W2.setChan c 1 #[.agg #[]] false (s + 1) 0 false)) := below_setChan HB2.out HW2.out.bc _ _ _ _ _ _
    generalize W2.setChan c 1 #[.agg #[]] false (s + 1) 0 false = W3 at *
    clear c2 c5 hs
    refine wpN_of_wp ?_
    go_wp2_with fail
    refine wpN_of_wp ?_
    go_wp2_with fail
    refine leaves_cons (f := 16) (args := #[.pointer (some ⟨r, 5, none⟩)]) (by simp) (by simp [go_sem]) ?_
    obtain ⟨_, k5, _⟩ := HW3.out.cells
    refine (unlock_deferred Try.muLib ⟨r, 5, none⟩ .returning _ k5 (HW3.out.frozen 5)).mono ?_
    rintro x u' w'' ⟨rfl, rfl, rfl⟩
    exact ⟨_, results_tmp rfl _ _ _, rfl, acks_unlock HW3.out, HB3.out.setCell (p := ⟨r, 5, none⟩) HW3.out.br _⟩
  | true =>
    refine wpN_select_full rfl (c := c) (v := .agg #[]) (z := .agg #[]) (cap := 1) (buf := #[.agg #[]]) (s := s) (r := 0) (tm := false) (by simp [go_sem, execOp, scase, Act.eval]) hs (by simp) ?_
    go_wp2_with fail
    have HW3 : Hid (Held W2 B r c q n nb ne .nilIface true nb ne) := HW2.out
    have HB3 : Hid (Below B w W2) := HB2.out
    clear c2 c5 hs
    refine wpN_of_wp ?_
    go_wp2_with fail
    refine wpN_of_wp ?_
    go_wp2_with fail
    refine leaves_cons (f := 16) (args := #[.pointer (some ⟨r, 5, none⟩)]) (by simp) (by simp [go_sem]) ?_
    obtain ⟨_, k5, _⟩ := HW3.out.cells
    refine (unlock_deferred Try.muLib ⟨r, 5, none⟩ .returning _ k5 (HW3.out.frozen 5)).mono ?_
    rintro x u' w'' ⟨rfl, rfl, rfl⟩
    exact ⟨_, results_tmp rfl _ _ _, rfl, acks_unlock HW3.out, HB3.out.setCell (p := ⟨r, 5, none⟩) HW3.out.br _⟩
end Go.Proofs.Qxb6615600a
