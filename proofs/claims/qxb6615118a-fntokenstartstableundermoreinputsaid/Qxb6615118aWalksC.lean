/-
  zzClone, ZZnewRecorder, ZZtokenStart, the two size looks.
-/
import Derived.Test.Qxb6615118aWalksB
import Derived.Deep.OwnRows
import Derived.Deep.WholeRow
import Derived.Laws.CopyRow
import Derived.Laws.IdiomCopy
import Derived.Lib.SliceRun
namespace Go.Proofs.Qxb6615118a
open Go.ChangeShapes Go.WideShapes Go.ChangeAt Go.RowKit
open Plain

theorem Try.info5 : (Try.prog.info? 5).map (fun i => (i.zero, i.size, i.bytes)) = some (some (.int .u8 0), 1, 1) := by kernel_rfl
theorem Try.size5 : (Try.prog.info? 5).map (·.size) = some 1 := by kernel_rfl

/-- The cells of a row of bytes. -/
def cellsOf (zs : List Int) : Array Value := (zs.map (Value.int .u8)).toArray

theorem getD_map (zs : List Int) (i : Nat) (h : i < zs.length) : (zs.map (Value.int .u8))[i]? = some (.int .u8 (zs.getD i 0)) := by
  simp [h]

theorem Has.alloc (w : World) (zs : List Int) (n : Nat) (h : zs.length = n) : Has (w.alloc (.cells (cellsOf zs) 5)) (some ⟨w.heap.size, 0, none⟩) n zs := by
  refine ⟨h, fun hn => ⟨w.heap.size, 0, rfl, by simp, fun i hi => ?_⟩⟩
  rw [World.cell?_alloc_new]
  · simp [cellsOf, getD_map zs i (by omega)]

theorem clone_nil (w : World) : Calls Try.prog 6 #[.slice none 0 0] w fun e w' => e = .returned (.slice none 0 0) ∧ w' = w := by
  have hnil := fun w => Lib.run_eql_slice_nil (P := Try.prog) w 22 5 none 0 0 0 0 Try.underlying22
  go_enter Try.func6, Try.ntmps6
  go_wp2
  go_ret
  exact ⟨rfl, rfl⟩

set_option maxHeartbeats 1000000 in
theorem clone_some (x : Addr) (n c : Nat) (zs : List Int) (w : World) (hm : n ≤ 1048576) (hz : Has w (some x) n zs) :
    Calls Try.prog 6 #[.slice (some x) n c] w fun e w' => e = .returned (.slice (some ⟨w.heap.size, 0, none⟩) n n) ∧ w' = w.alloc (.cells (cellsOf zs) 5) := by
  have hmk := fun w => run_make_row' (P := Try.prog) 22 5 (.int .u8 0) 1 Try.underlying22 Try.info5 rfl .i64 .i64 n (by omega) (by omega) w
  have hcp : ∀ ty, (Builtin.copy_ #[22, 22] ty #[.slice (some ⟨w.heap.size, 0, none⟩) n n, .slice (some x) n c]).run Try.prog (w.alloc (.cells (madeCells #[.int .u8 0] n) 5)) = .ok (goInt n) (w.alloc (.cells (cellsOf zs) 5)) := by
    intro ty
    have hl := hz.len
    by_cases h0 : n = 0
    · subst h0
      have e : zs = [] := List.eq_nil_of_length_eq_zero hl
      subst e
      rw [run_copy_none (P := Try.prog) _ 22 22 ty 5 (some ⟨w.heap.size, 0, none⟩) (some x) 0 0 0 c Try.underlying22 Try.size5 rfl]
      rw [show madeCells #[Value.int .u8 0] 0 = #[] from Array.eq_empty_of_size_eq_zero (size_madeCells _ _)]
      rfl
    · obtain ⟨b, off, hx, hb, hcell⟩ := hz.at' h0
      obtain rfl := Option.some.inj hx
      have h := run_copy_row (P := Try.prog) (w.alloc (.cells (madeCells #[.int .u8 0] n) 5)) 22 22 ty 5 w.heap.size 0 n n ⟨b, off, none⟩ n c (madeCells #[.int .u8 0] n) 5 (zs.map (Value.int .u8))
        Try.underlying22 Try.size5 (Deep.blk_alloc_new _ _) (by simp [hl]) ?_ (by simp [hl, size_madeCells]) ?_
      · rw [h]
        have e2 : ((madeCells #[Value.int .u8 0] n).toList.take 0 ++ zs.map (Value.int .u8) ++ (madeCells #[Value.int .u8 0] n).toList.drop (0 + (zs.map (Value.int .u8)).length)).toArray = cellsOf zs := by
          rw [List.drop_eq_nil_of_le (by simp [size_madeCells, hl])]
          simp [cellsOf]
        rw [e2, World.setRow_alloc_new, List.length_map, hl]
      · intro j v hv
        have hj : j < zs.length := by
          have := (List.getElem?_eq_some_iff.1 hv).1; simpa using this
        rw [getD_map zs j hj] at hv
        have h2 := hcell j (by omega)
        rw [add_plain, World.cell?_alloc_lt w _ ⟨b, off + j, none⟩ hb, ← hv]
        exact h2
      · intro v hv
        obtain ⟨z, _, rfl⟩ := List.mem_map.1 hv
        rfl
  have hnil := fun w => Lib.run_eql_slice_nil (P := Try.prog) w 22 5 (some x) n c 0 0 Try.underlying22
  go_enter Try.func6, Try.ntmps6
  go_wp2
  go_ret
  exact ⟨rfl, rfl⟩

/-- What a recorder holds. -/
def recCells (a : Option Addr) (n c : Nat) (base : Int) : Array Value := #[.nilIface, .slice a n c, .int .i64 base]

theorem new_any (a : Option Addr) (n c : Nat) (base : Int) (w : World) :
    Calls Try.prog 8 #[.slice a n c, .int .i64 base] w fun e w' => e = .returned (.pointer (some ⟨w.heap.size, 0, none⟩)) ∧ w' = w.alloc (.cells (recCells a n c base) 34) := by
  go_enter Try.func8, Try.ntmps8
  go_wp2
  go_ret
  exact ⟨rfl, rfl⟩

theorem start_any (r : Nat) (a : Option Addr) (n c : Nat) (zs : List Int) (base f : Int) (off : Nat) (w : World) (hm : n ≤ 1048576) (hnc : n ≤ c) (hoff : off ≤ n) (hf : f = base + off) (hz : Has w a n zs)
    (hb0 : 0 ≤ base) (hb1 : base + n ≤ 9223372036854775807) (g1 : w.cell? ⟨r, 1, none⟩ = some (.slice a n c)) (g2 : w.cell? ⟨r, 2, none⟩ = some (.int .i64 base)) :
    Calls Try.prog 7 #[.pointer (some ⟨r, 0, none⟩), .int .i64 f] w fun e w' => e = .returned (.int .i64 (f + (tok (zs.drop off) : Nat))) ∧ ∃ q, w' = w.drewN q := by
  subst hf
  go_enter Try.func7, Try.ntmps7
  go_wp2_with fail
  refine (tok_core r a n c zs base off w hm hnc hoff hz hb0 hb1 g1 g2).mono ?_
  rintro e w' ⟨rfl, q, rfl⟩
  go_wp2_with fail
  go_ret
  exact ⟨rfl, _, rfl⟩

theorem bytesA (a : Option Addr) (n c : Nat) (x y z : Int) (w : World) (hm : n ≤ 1048576) :
    Calls Try.prog 5 #[.slice a n c, .int .i64 x, .int .i64 y, .int .i64 z] w fun e w' => e = .returned (.bool true) ∧ w' = w := by
  go_enter Try.func5, Try.ntmps5
  go_wp2
  go_ret
  exact ⟨rfl, rfl⟩

theorem bytesA_no (a : Option Addr) (n c : Nat) (x y z : Int) (w : World) (hm : 1048576 < n) :
    Calls Try.prog 5 #[.slice a n c, .int .i64 x, .int .i64 y, .int .i64 z] w fun e w' => e = .returned (.bool false) ∧ w' = w := by
  go_enter Try.func5, Try.ntmps5
  go_wp2
  go_ret
  exact ⟨rfl, rfl⟩

end Go.Proofs.Qxb6615118a
