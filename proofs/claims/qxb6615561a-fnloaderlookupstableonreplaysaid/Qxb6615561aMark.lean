/-
  mark: what is drawn is nowhere asked.
-/
import Derived.Test.Qxb6615561aPcg
import Derived.Deep.RegionLaw
import Derived.Deep.DrawnRows
namespace Go.Proofs.Qxb6615561a
open Go.ChangeShapes Go.WideShapes Go.ChangeAt Go.RowKit

theorem lt_of_block {w : World} {b : Nat} {o : Obj} (h : w.heap[b]? = some o) : b < w.heap.size := (Array.getElem?_eq_some_iff.1 h).1

/-- The random source that a loader draws from. -/
structure Gen (w : World) (r p : Nat) : Prop where
  pcg : ∃ hi lo, Word hi ∧ Word lo ∧ pcgIs w p hi lo
  rand : randIs w r p

theorem Gen.ne {w : World} {r p : Nat} (h : Gen w r p) : r ≠ p := by
  obtain ⟨⟨hi, lo, _, _, hp⟩, hr⟩ := h
  intro e
  subst e
  unfold pcgIs at hp; unfold randIs at hr
  rw [hr] at hp; simp at hp

theorem Gen.lt {w : World} {r p : Nat} (h : Gen w r p) : r < w.heap.size ∧ p < w.heap.size := by
  obtain ⟨⟨hi, lo, _, _, hp⟩, hr⟩ := h
  exact ⟨lt_of_block hr, lt_of_block hp⟩

theorem Gen.of {w w' : World} {r p : Nat} (h : Gen w r p) (h1 : w'.heap[r]? = w.heap[r]?) (h2 : w'.heap[p]? = w.heap[p]?) : Gen w' r p := by
  obtain ⟨⟨hi, lo, a, b, hp⟩, hr⟩ := h
  exact ⟨⟨hi, lo, a, b, h2.trans hp⟩, h1.trans hr⟩

theorem draw_any (r p : Nat) (w : World) (h : Gen w r p) :
    Calls Try.prog 44 #[.pointer (some ⟨r, 0, none⟩)] w fun e w' => ∃ x : Int, Word x ∧ e = .returned (.int .u64 x) ∧ w.grownBy w' (some p) ∧ Gen w' r p := by
  have hne := h.ne
  have hlt := h.lt
  obtain ⟨⟨hi, lo, a, b, hp⟩, hr⟩ := h
  refine (r64_any r p hi lo a b w hp hr).mono ?_
  rintro e w' ⟨x, hi', lo', g0, g1, g2, rfl, hg, hp'⟩
  exact ⟨x, g0, rfl, hg, ⟨_, _, g1, g2, hp'⟩, (hg.block r hlt.1 (by simpa using hne)).trans hr⟩

/-- A loader in block l: its search, its random source, its map. -/
def lodIs (w : World) (l s r m : Nat) : Prop :=
  w.heap[l]? = some (.cells #[.pointer (some ⟨s, 0, none⟩), .int .i64 0, .pointer (some ⟨r, 0, none⟩), .map (some m), .slice none 0 0, .slice none 0 0, .slice none 0 0] 85 (0, 0))

theorem lodIs.cell {w : World} {l s r m : Nat} (h : lodIs w l s r m) :
    w.cell? ⟨l, 0, none⟩ = some (.pointer (some ⟨s, 0, none⟩)) ∧ w.cell? ⟨l, 2, none⟩ = some (.pointer (some ⟨r, 0, none⟩)) ∧ w.cell? ⟨l, 3, none⟩ = some (.map (some m)) := by
  refine ⟨?_, ?_, ?_⟩
  all_goals rw [cell_of_row w l _ _ _ _ h]; rfl

theorem lodIs.ne {w : World} {l s r m p : Nat} (h : lodIs w l s r m) (g : Gen w r p) : l ≠ p := by
  obtain ⟨⟨hi, lo, _, _, hp⟩, hr⟩ := g
  intro e
  subst e
  unfold pcgIs at hp; unfold lodIs at h
  rw [h] at hp; simp at hp

theorem lodIs.of {w w' : World} {l s r m : Nat} (h : lodIs w l s r m) (hb : w'.heap[l]? = w.heap[l]?) : lodIs w' l s r m := hb.trans h

theorem grown_setCell (w : World) (a : Addr) (u : Value) : w.grownBy (w.setCell a u) (some a.block) :=
  ⟨rfl, rfl, rfl, by simp, fun k _ hne => Deep.blk_setCell_other _ _ _ _ fun e => hne (by rw [e])⟩

theorem grown_drew (w : World) (x : Option Nat) : w.grownBy w.drew x := ⟨rfl, rfl, rfl, Nat.le_refl _, fun _ _ _ => rfl⟩

theorem two_grown {w W : World} {p q : Nat} (a b : Value) (h : w.grownBy W (some p)) (hq : w.heap.size ≤ q) : w.grownBy ((W.setCell ⟨q, 0, none⟩ a).setCell ⟨q, 1, none⟩ b) (some p) := by
  refine ⟨h.os, h.tape, h.output, by simpa using h.size, fun k hk hne => ?_⟩
  have hn : k ≠ q := by omega
  rw [Deep.blk_setCell_other _ _ _ _ hn, Deep.blk_setCell_other _ _ _ _ hn]
  exact h.block k hk hne

theorem two_gen {W : World} {r p q : Nat} (a b : Value) (h : Gen W r p) (h1 : q ≠ p) (h2 : q ≠ r) : Gen ((W.setCell ⟨q, 0, none⟩ a).setCell ⟨q, 1, none⟩ b) r p := by
  refine h.of ?_ ?_
  · rw [Deep.blk_setCell_other _ _ _ _ h2.symm, Deep.blk_setCell_other _ _ _ _ h2.symm]
  · rw [Deep.blk_setCell_other _ _ _ _ h1.symm, Deep.blk_setCell_other _ _ _ _ h1.symm]

/-- A variable of two words. -/
def var2 (w : World) (q : Nat) (x y : Int) : Prop := w.heap[q]? = some (.cells #[.int .u64 x, .int .u64 y] 36 (0, 0))

theorem var2.of {w w' : World} {q : Nat} {x y : Int} (h : var2 w q x y) (hb : w'.heap[q]? = w.heap[q]?) : var2 w' q x y := hb.trans h

theorem var2.put0 {w : World} {q : Nat} {x y : Int} (h : var2 w q x y) (z : Int) : var2 (w.setCell ⟨q, 0, none⟩ (.int .u64 z)) q z y := heap_setCell_same w q 0 _ 36 _ h
theorem var2.put1 {w : World} {q : Nat} {x y : Int} (h : var2 w q x y) (z : Int) : var2 (w.setCell ⟨q, 1, none⟩ (.int .u64 z)) q x z := heap_setCell_same w q 1 _ 36 _ h

theorem var2.cell {w : World} {q : Nat} {x y : Int} (h : var2 w q x y) : w.cell? ⟨q, 0, none⟩ = some (.int .u64 x) ∧ w.cell? ⟨q, 1, none⟩ = some (.int .u64 y) ∧ w.frozen? ⟨q, 0, none⟩ = false ∧ w.frozen? ⟨q, 1, none⟩ = false := by
  refine ⟨?_, ?_, frozen_of_row w q _ _ _ h, frozen_of_row w q _ _ _ h⟩
  all_goals rw [cell_of_row w q _ _ _ _ h]; rfl

attribute [local go_sem ↓] Go.wp_at_zero Go.wp_at_succ

set_option maxRecDepth 100000 in
set_option maxHeartbeats 4000000 in
theorem mark_any (l s r m p : Nat) (w : World) (hl : lodIs w l s r m) (hg : Gen w r p) :
    Calls Try.prog 42 #[.pointer (some ⟨l, 0, none⟩)] w fun e w' => ∃ x y : Int, Word x ∧ Word y ∧ e = .returned (.agg #[.int .u64 x, .int .u64 y]) ∧ w.grownBy w' (some p) ∧ Gen w' r p := by
  have hne := hl.ne hg
  have hlp := hg.lt
  have hll := lt_of_block hl
  have HL : Hid (lodIs w l s r m) := hl
  have HG : Hid _ := hg
  clear hl hg
  go_enter Try.func42, Try.ntmps42
  go_wp2
  have HL1 : Hid (lodIs (w.alloc (.cells #[.int .u64 0, .int .u64 0] 36)) l s r m) := HL.out.of (Deep.blk_alloc_lt _ _ _ hll)
  have HG1 : Hid (Gen (w.alloc (.cells #[.int .u64 0, .int .u64 0] 36)) r p) := HG.out.of (Deep.blk_alloc_lt _ _ _ hlp.1) (Deep.blk_alloc_lt _ _ _ hlp.2)
  have HW1 : Hid (w.grownBy (w.alloc (.cells #[.int .u64 0, .int .u64 0] 36)) (some p)) := World.grownBy_alloc _ _ _
  have HV1 : Hid (var2 (w.alloc (.cells #[.int .u64 0, .int .u64 0] 36)) w.heap.size 0 0) := Deep.blk_alloc_new _ _
  have hs1 : Hid (w.heap.size < (w.alloc (.cells #[.int .u64 0, .int .u64 0] 36)).heap.size) := lt_of_block HV1.out
  have hqr : Hid (w.heap.size ≠ r) := (by omega : w.heap.size ≠ r)
  have hqp : Hid (w.heap.size ≠ p) := (by omega : w.heap.size ≠ p)
  clear HL HG hlp hll
  generalize w.alloc (.cells #[.int .u64 0, .int .u64 0] 36) = W1 at *
  generalize hq : w.heap.size = q at *
  have hqs : Hid (w.heap.size ≤ q) := (by omega : w.heap.size ≤ q)
  clear hq
  obtain ⟨_, l2, _⟩ := HL1.out.cell
  have HG0 : Hid (Gen W1.drew r p) := HG1.out.of rfl rfl
  have HL0 : Hid (lodIs W1.drew l s r m) := HL1.out
  have HV0 : Hid (var2 W1.drew q 0 0) := HV1.out
  have HW0 : Hid (w.grownBy W1.drew (some p)) := HW1.out.trans (grown_drew _ _)
  have hs0 : Hid (q < W1.drew.heap.size) := hs1.out
  go_region_with (go_at_call 44; first
    | (refine (draw_any r p _ HG2.out).mono ?_; rintro e W3 ⟨y, hy, rfl, hgr3, hgen3⟩
       have HG3 : Hid (Gen W3 r p) := hgen3
       have HV3 : Hid (var2 W3 q 0 0) := HV2.out.of (hgr3.block q hs2.out (by simpa using hqp.out))
       have HW3 : Hid (w.grownBy W3 (some p)) := HW2.out.trans hgr3
       have HY : Hid (Word y) := hy
       clear hgen3 hgr3 hy
       obtain ⟨v0, v1, v2, v3⟩ := HV3.out.cell)
    | (refine (draw_any r p _ HG0.out).mono ?_; rintro e W2 ⟨x, hx, rfl, hgr, hgen⟩
       have HG2 : Hid (Gen W2 r p) := hgen
       have HL2 : Hid (lodIs W2 l s r m) := HL0.out.of (hgr.block l (lt_of_block HL0.out) (by simpa using hne))
       have HV2 : Hid (var2 W2 q 0 0) := HV0.out.of (hgr.block q hs0.out (by simpa using hqp.out))
       have HW2 : Hid (w.grownBy W2 (some p)) := HW0.out.trans hgr
       have hs2 : Hid (q < W2.heap.size) := lt_of_block HV2.out
       have HX : Hid (Word x) := hx
       clear hgen hgr hx
       obtain ⟨_, k2, _⟩ := HL2.out.cell))
  all_goals
    have f0 : (W3.setCell ⟨q, 0, none⟩ (.int .u64 x)).cell? ⟨q, 0, none⟩ = some (.int .u64 x) := (HV3.out.put0 x).cell.1
    have f1 : ((W3.setCell ⟨q, 0, none⟩ (.int .u64 x)).setCell ⟨q, 1, none⟩ (.int .u64 y)).cell? ⟨q, 1, none⟩ = some (.int .u64 y) := ((HV3.out.put0 x).put1 y).cell.2.1
    go_wp2
    simp [bodyPost, results, Try.results42, go_sem, f0, f1]
    exact ⟨x, HX.out, y, HY.out, ⟨rfl, rfl⟩, two_grown _ _ HW3.out hqs.out, two_gen _ _ HG3.out hqp.out hqr.out⟩
end Go.Proofs.Qxb6615561a
