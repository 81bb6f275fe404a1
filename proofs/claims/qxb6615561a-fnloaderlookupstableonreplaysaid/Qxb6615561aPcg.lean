/-
  The generator: what it answers is nowhere asked; only that it answers, and what it changes.
-/
import Derived.Test.Qxb6615561aRows
import Derived.WalkKit
import Derived.WalkSpells
import Derived.WalkLawsBesides
import Derived.Handy
import Derived.Deep.QuietTactic
import Derived.BigQuiet
import Derived.BigRegion
import Derived.Laws.Externs
import Derived.Deep.Heap
import Derived.Laws.AppendOwn
namespace Go.Proofs.Qxb6615561a
open Go.ChangeShapes Go.WideShapes Go.ChangeAt Go.RowKit

theorem add64 (x y c : Int) (hx : 0 ≤ x) (hy : 0 ≤ y) (hc0 : 0 ≤ c) (hc : c ≤ 1) (w : World) : (callFunc 66 #[.int .u64 x, .int .u64 y, .int .u64 c]).run Try.prog w =
    .ok (.value (.tuple #[.int .u64 ((x + y + c) % 18446744073709551616), .int .u64 ((x + y + c) / 18446744073709551616)])) w := by
  rw [run_callFunc_extern Try.func66 (by kernel_rfl) (by kernel_rfl) (by kernel_rfl) (e := add64Entry) (by kernel_rfl), run_add64 x y c hx hy hc0 hc]
  rfl

theorem add64_0 (x y : Int) (hx : 0 ≤ x) (hy : 0 ≤ y) (w : World) : (callFunc 66 #[.int .u64 x, .int .u64 y, .int .u64 0]).run Try.prog w =
    .ok (.value (.tuple #[.int .u64 ((x + y) % 18446744073709551616), .int .u64 ((x + y) / 18446744073709551616)])) w := by
  simpa using add64 x y 0 hx hy (Int.le_refl 0) (by decide) w

/-- The generator's two words. -/
def pcgIs (w : World) (p : Nat) (hi lo : Int) : Prop := w.heap[p]? = some (.cells #[.int .u64 hi, .int .u64 lo] 100 (0, 0))

def Word (x : Int) : Prop := 0 ≤ x ∧ x < 18446744073709551616

theorem word_wrap (x : Int) : Word (IntKind.u64.wrap x) := by rw [IntKind.wrap_u64]; unfold Word; omega
theorem word_mod (x : Int) : Word (x % 18446744073709551616) := ⟨by omega, by omega⟩

theorem pcgIs.cell {w : World} {p : Nat} {hi lo : Int} (h : pcgIs w p hi lo) : w.cell? ⟨p, 0, none⟩ = some (.int .u64 hi) ∧ w.cell? ⟨p, 1, none⟩ = some (.int .u64 lo) ∧ w.frozen? ⟨p, 0, none⟩ = false ∧ w.frozen? ⟨p, 1, none⟩ = false := by
  refine ⟨?_, ?_, frozen_of_row w p _ _ _ h, frozen_of_row w p _ _ _ h⟩
  all_goals rw [cell_of_row w p _ _ _ _ h]; rfl

theorem grown_two (w : World) (p : Nat) (a b : Value) (nq : Nat) : w.grownBy (((w.drewN nq).setCell ⟨p, 1, none⟩ a).setCell ⟨p, 0, none⟩ b) (some p) := by
  refine ⟨rfl, rfl, rfl, by simp, fun k hk hne => ?_⟩
  have h : k ≠ p := fun e => hne (by rw [e])
  rw [Deep.blk_setCell_other _ _ _ _ h, Deep.blk_setCell_other _ _ _ _ h]; rfl

theorem pcgIs.two {w : World} {p : Nat} {hi lo : Int} (h : pcgIs w p hi lo) (a b : Int) (nq : Nat) : pcgIs (((w.drewN nq).setCell ⟨p, 1, none⟩ (.int .u64 a)).setCell ⟨p, 0, none⟩ (.int .u64 b)) p b a := by
  have h1 : ((w.drewN nq).setCell ⟨p, 1, none⟩ (.int .u64 a)).heap[p]? = some (.cells #[.int .u64 hi, .int .u64 a] 100 (0, 0)) := heap_setCell_same (w.drewN nq) p 1 _ 100 _ h
  exact heap_setCell_same _ p 0 _ 100 _ h1

theorem mul64_any (x y : Int) (hx : Word x) (hy : Word y) (w : World) :
    Calls Try.prog 65 #[.int .u64 x, .int .u64 y] w fun e w' => (∃ hi lo : Int, Word hi ∧ Word lo ∧ e = .returned (.tuple #[.int .u64 hi, .int .u64 lo])) ∧ w' = w := by
  obtain ⟨hx, hx'⟩ := hx
  obtain ⟨hy, hy'⟩ := hy
  go_enter Try.func65, Try.ntmps65
  go_wp2
  go_returns
  exact ⟨⟨_, _, word_wrap _, word_wrap _, rfl⟩, rfl⟩

theorem next_any (p : Nat) (hi lo : Int) (h1 : Word hi) (h2 : Word lo) (w : World) (h : pcgIs w p hi lo) :
    Calls Try.prog 64 #[.pointer (some ⟨p, 0, none⟩)] w fun e w' => ∃ hi' lo' : Int, Word hi' ∧ Word lo' ∧ e = .returned (.tuple #[.int .u64 hi', .int .u64 lo']) ∧
      w.grownBy w' (some p) ∧ pcgIs w' p hi' lo' := by
  obtain ⟨c0, c1, d0, d1⟩ := h.cell
  have H : Hid _ := h
  clear h
  obtain ⟨g1, g1'⟩ := h1
  obtain ⟨g2, g2'⟩ := h2
  have hw : Word lo := ⟨g2, g2'⟩
  go_enter Try.func64, Try.ntmps64
  go_wp2_with fail
  refine (mul64_any _ _ hw (by unfold Word; omega) _).mono ?_
  rintro e w' ⟨⟨mh, ml, ⟨a1, a2⟩, ⟨b1, b2⟩, rfl⟩, rfl⟩
  have k0 : 0 ≤ (ml + 1442695040888963407) / 18446744073709551616 := by omega
  have k1 : (ml + 1442695040888963407) / 18446744073709551616 ≤ 1 := by omega
  go_wp2_with fail
  go_quiet (fail)
  go_wp2_with (first | simp only [add64_0 ml 1442695040888963407 b1 (by decide)] | simp only [add64 _ 6364136223846793005 _ (word_wrap _).1 (by decide) k0 k1])
  go_returns
  exact ⟨_, _, word_mod _, word_mod _, rfl, grown_two _ p _ _ nq, pcgIs.two H.out _ _ nq⟩

theorem u64_any (p : Nat) (hi lo : Int) (h1 : Word hi) (h2 : Word lo) (w : World) (h : pcgIs w p hi lo) :
    Calls Try.prog 63 #[.pointer (some ⟨p, 0, none⟩)] w fun e w' => ∃ x hi' lo' : Int, Word x ∧ Word hi' ∧ Word lo' ∧ e = .returned (.int .u64 x) ∧
      w.grownBy w' (some p) ∧ pcgIs w' p hi' lo' := by
  have H : Hid _ := h
  clear h
  go_enter Try.func63, Try.ntmps63
  go_wp2_with fail
  refine (next_any p hi lo h1 h2 w H.out).mono ?_
  rintro e w' ⟨hi', lo', g1, g2, rfl, hg, hp⟩
  have HG : Hid _ := hg
  have HP : Hid _ := hp
  clear hg hp
  have G1 := g1
  have G2 := g2
  obtain ⟨g1, g1'⟩ := g1
  obtain ⟨g2, g2'⟩ := g2
  go_wp2_with fail
  go_ret
  exact ⟨_, _, _, word_wrap _, G1, G2, rfl, HG.out, HP.out⟩

/-- What the loader's random source is: a pointer to a Rand whose source is the generator. -/
def randIs (w : World) (r p : Nat) : Prop := w.heap[r]? = some (.cells #[.iface 80 (.pointer (some ⟨p, 0, none⟩))] 98 (0, 0))

theorem randIs.cell {w : World} {r p : Nat} (h : randIs w r p) : w.cell? ⟨r, 0, none⟩ = some (.iface 80 (.pointer (some ⟨p, 0, none⟩))) := by
  rw [cell_of_row w r _ _ _ _ h]; rfl

theorem r64_any (r p : Nat) (hi lo : Int) (h1 : Word hi) (h2 : Word lo) (w : World) (h : pcgIs w p hi lo) (hr : randIs w r p) :
    Calls Try.prog 44 #[.pointer (some ⟨r, 0, none⟩)] w fun e w' => ∃ x hi' lo' : Int, Word x ∧ Word hi' ∧ Word lo' ∧ e = .returned (.int .u64 x) ∧
      w.grownBy w' (some p) ∧ pcgIs w' p hi' lo' := by
  have H : Hid _ := h
  have c := hr.cell
  clear h hr
  go_enter Try.func44, Try.ntmps44
  go_wp2_with fail
  refine (u64_any p hi lo h1 h2 w H.out).mono ?_
  rintro e w' ⟨x, hi', lo', g0, g1, g2, rfl, hg, hp⟩
  have HG : Hid _ := hg
  have HP : Hid _ := hp
  clear hg hp
  go_wp2_with fail
  go_ret
  exact ⟨_, _, _, g0, g1, g2, rfl, HG.out, HP.out⟩

end Go.Proofs.Qxb6615561a
