/-
  ZZnewAcks; the getters.
-/
import Derived.Test.Qxb6615600aLocks
import Derived.Test.Qxb6615600aSelect
import Derived.WalkKit
import Derived.WalkSpells
import Derived.WalkLawsBesides
import Derived.Handy
import Derived.Deep.QuietTactic
import Derived.BigQuiet
import Derived.BigRegion
import Derived.Deep.Heap
import Derived.Conc.LoneSelectN
namespace Go.Proofs.Qxb6615600a
open Go.ChangeShapes Go.WideShapes Go.ChangeAt Go.RowKit
open Go.Conc (heap_setChan size_setChan below_setChan)

theorem info42 : ∃ i, Try.prog.info? 42 = some i ∧ i.bytes = 0 := by
  have h : (Try.prog.info? 42).map (·.bytes) = some 0 := by kernel_rfl
  obtain ⟨i, hi, hb⟩ := Option.map_eq_some_iff.1 h
  exact ⟨i, hi, hb⟩
theorem mk1 (w : World) : (Instr.makeChan 40 (.int .i64 1)).run Try.prog w = .ok (.chan (some w.heap.size)) (w.alloc (.chan 1 #[] false 0 0 false)) := by
  obtain ⟨i, hi, hb⟩ := info42
  simpa using Go.Conc.run_makeChan (P := Try.prog) (w := w) Try.underlying40 hi .i64 1 (by omega) (by rw [hb]; omega)
theorem mk0 (w : World) : (Instr.makeChan 40 (.int .i64 0)).run Try.prog w = .ok (.chan (some w.heap.size)) (w.alloc (.chan 0 #[] false 0 0 false)) := by
  obtain ⟨i, hi, hb⟩ := info42
  simpa using Go.Conc.run_makeChan (P := Try.prog) (w := w) Try.underlying40 hi .i64 0 (by omega) (by rw [hb]; omega)

/-- The cells of an acks. -/
def arr (c c1 c2 : Nat) (next b e : Int) (err : Value) (n0 b0 e0 : Int) : Array Value :=
  #[.string ByteArray.empty, .pointer none, .chan (some c), .chan (some c1), .chan (some c2), .int .i32 0, .int .u32 0, .int .u64 next, .int .u64 b, .int .u64 e, err,
    .int .u64 n0, .int .u64 b0, .int .u64 e0, .int .u64 n0, .int .i64 0]

/-- How full the channel of tokens is. -/
def buf (k : Bool) : Array Value := if k then #[.agg #[]] else #[]

/-- An acks in block r, its channel of tokens in block c. -/
structure Acks (w : World) (B r c : Nat) (next b e : Int) (err : Value) (k : Bool) : Prop where
  rec' : ∃ c1 c2 n0 b0 e0, w.heap[r]? = some (.cells (arr c c1 c2 next b e err n0 b0 e0) 50 (0, 0))
  chan : ∃ s, w.heap[c]? = some (.chan 1 (buf k) false s 0 false)
  br : B ≤ r
  bc : B ≤ c

/-- Four new blocks, and a draw. -/
def w4 (w : World) (X Y Z R : Obj) : World := ((((w.alloc X).alloc Y).alloc Z).alloc R).drew

theorem below4 (w : World) (X Y Z R : Obj) : Below w.heap.size w (w4 w X Y Z R) :=
  ((((((Below.refl _ _).alloc (Nat.le_refl _) X).alloc (by simp) Y).alloc (by simp; omega) Z).alloc (by simp; omega) R)).drew

theorem acks_new (w : World) (X Y Z : Obj) (c c1 c2 : Nat) (n b e : Int)
    (h : (c = w.heap.size ∧ X = .chan 1 #[] false 0 0 false) ∨ (c = w.heap.size + 1 ∧ Y = .chan 1 #[] false 0 0 false) ∨ (c = w.heap.size + 1 + 1 ∧ Z = .chan 1 #[] false 0 0 false)) :
    Acks (w4 w X Y Z (.cells (arr c c1 c2 n b e .nilIface n b e) 50)) w.heap.size (w.heap.size + 1 + 1 + 1) c n b e .nilIface false := by
  refine ⟨⟨c1, c2, n, b, e, ?_⟩, ⟨0, ?_⟩, by omega, by omega⟩
  · have := Deep.blk_alloc_new (((w.alloc X).alloc Y).alloc Z) (.cells (arr c c1 c2 n b e .nilIface n b e) 50)
    show ((((w.alloc X).alloc Y).alloc Z).alloc (.cells (arr c c1 c2 n b e .nilIface n b e) 50)).heap[w.heap.size + 1 + 1 + 1]? = _
    simpa using this
  · have e1 : ∀ k, k < w.heap.size + 3 → (w4 w X Y Z (.cells (arr c c1 c2 n b e .nilIface n b e) 50)).heap[k]? = (((w.alloc X).alloc Y).alloc Z).heap[k]? := fun k hk => Deep.blk_alloc_lt _ _ _ (by simp; omega)
    rcases h with ⟨rfl, rfl⟩ | ⟨rfl, rfl⟩ | ⟨rfl, rfl⟩
    · rw [e1 _ (by omega), Deep.blk_alloc_lt _ _ _ (by simp; omega), Deep.blk_alloc_lt _ _ _ (by simp)]
      exact Deep.blk_alloc_new _ _
    · rw [e1 _ (by omega), Deep.blk_alloc_lt _ _ _ (by simp)]
      have := Deep.blk_alloc_new (w.alloc X) (.chan 1 #[] false 0 0 false)
      simpa [buf] using this
    · rw [e1 _ (by omega)]
      have := Deep.blk_alloc_new ((w.alloc X).alloc Y) (.chan 1 #[] false 0 0 false)
      simpa [buf] using this

set_option maxHeartbeats 2000000 in
theorem new_any (n b e : Int) (w : World) : Calls Try.prog 6 #[.int .u64 n, .int .u64 b, .int .u64 e] w fun x w' => ∃ r c, x = .returned (.pointer (some ⟨r, 0, none⟩)) ∧ Acks w' w.heap.size r c n b e .nilIface false ∧ Below w.heap.size w w' := by
  have h1 := mk1
  have h0 := mk0
  go_enter Try.func6, Try.ntmps6
  go_wp2
  go_region
  all_goals
    go_wp2
    go_ret
  all_goals first
    | exact ⟨_, _, rfl, acks_new w _ _ _ w.heap.size _ _ n b e (.inl ⟨rfl, rfl⟩), below4 w _ _ _ _⟩
    | exact ⟨_, _, rfl, acks_new w _ _ _ (w.heap.size + 1) _ _ n b e (.inr (.inl ⟨rfl, rfl⟩)), below4 w _ _ _ _⟩
    | exact ⟨_, _, rfl, acks_new w _ _ _ (w.heap.size + 1 + 1) _ _ n b e (.inr (.inr ⟨rfl, rfl⟩)), below4 w _ _ _ _⟩

theorem Acks.cells {w : World} {B r c : Nat} {next b e : Int} {err : Value} {k : Bool} (h : Acks w B r c next b e err k) :
    w.cell? ⟨r, 2, none⟩ = some (.chan (some c)) ∧ w.cell? ⟨r, 5, none⟩ = some (.int .i32 0) ∧ w.cell? ⟨r, 7, none⟩ = some (.int .u64 next) ∧ w.cell? ⟨r, 8, none⟩ = some (.int .u64 b) ∧ w.cell? ⟨r, 9, none⟩ = some (.int .u64 e) ∧ w.cell? ⟨r, 10, none⟩ = some err := by
  obtain ⟨c1, c2, n0, b0, e0, hr⟩ := h.rec'
  refine ⟨?_, ?_, ?_, ?_, ?_, ?_⟩
  all_goals rw [cell_of_row w r _ _ _ _ hr]; rfl

theorem Acks.frozen {w : World} {B r c : Nat} {next b e : Int} {err : Value} {k : Bool} (h : Acks w B r c next b e err k) (i : Nat) : w.frozen? ⟨r, i, none⟩ = false := by
  obtain ⟨c1, c2, n0, b0, e0, hr⟩ := h.rec'
  exact frozen_of_row w r _ _ _ hr

theorem Acks.of {w w' : World} {B r c : Nat} {next b e : Int} {err : Value} {k : Bool} (h : Acks w B r c next b e err k) (hr : w'.heap[r]? = w.heap[r]?) (hc : w'.heap[c]? = w.heap[c]?) : Acks w' B r c next b e err k :=
  ⟨by rw [hr]; exact h.rec', by rw [hc]; exact h.chan, h.br, h.bc⟩

theorem next_any (B r c : Nat) (next b e : Int) (err : Value) (k : Bool) (w : World) (h : Acks w B r c next b e err k) :
    Calls Try.prog 9 #[.pointer (some ⟨r, 0, none⟩)] w fun x w' => x = .returned (.int .u64 next) ∧ w' = w := by
  obtain ⟨_, _, c7, _⟩ := h.cells
  clear h
  go_enter Try.func9, Try.ntmps9
  go_wp2
  go_ret
  exact ⟨rfl, rfl⟩

theorem in_any (B r c : Nat) (next b e : Int) (err : Value) (k : Bool) (w : World) (h : Acks w B r c next b e err k) :
    Calls Try.prog 8 #[.pointer (some ⟨r, 0, none⟩)] w fun x w' => x = .returned (.tuple #[.int .u64 b, .int .u64 e]) ∧ ∃ q, w' = w.drewN q := by
  obtain ⟨_, _, _, c8, c9, _⟩ := h.cells
  clear h
  go_enter Try.func8, Try.ntmps8
  go_wp2
  go_quiet (fail)
  go_wp2
  go_ret2
  exact ⟨rfl, _, rfl⟩

/-- How many tokens wait. -/
def kicks (k : Bool) : Int := if k then 1 else 0

theorem kicks_any (B r c : Nat) (next b e : Int) (err : Value) (k : Bool) (w : World) (h : Acks w B r c next b e err k) :
    Calls Try.prog 10 #[.pointer (some ⟨r, 0, none⟩)] w fun x w' => x = .returned (.int .i64 (kicks k)) ∧ w' = w := by
  obtain ⟨c2, _⟩ := h.cells
  obtain ⟨s, hs⟩ := h.chan
  have hlen := fun ty => Go.Conc.run_len_chan (P := Try.prog) 40 ty Try.underlying40 hs
  have hb : (buf k).size = if k then 1 else 0 := by cases k <;> rfl
  have HB : Hid _ := hb
  clear h hs hb
  cases k
  all_goals
    go_enter Try.func10, Try.ntmps10
    go_wp2
    go_ret
    exact ⟨rfl, rfl⟩
end Go.Proofs.Qxb6615600a
