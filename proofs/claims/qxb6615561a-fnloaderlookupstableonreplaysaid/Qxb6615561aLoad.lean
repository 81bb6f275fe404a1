/-
  ZZnewLoader, ZZpairKeys, ZZpairMarks; what a loader is.
-/
import Derived.Test.Qxb6615561aTab
import Derived.Test.Qxb6615561aNote
namespace Go.Proofs.Qxb6615561a
open Go.ChangeShapes Go.WideShapes Go.ChangeAt Go.RowKit

/-- The search of a loader: its two rows; all else as it was made. -/
def seaIs (w : World) (s : Nat) (kv mv : Value) : Prop :=
  w.heap[s]? = some (.cells #[.slice none 0 0, .slice none 0 0, .slice none 0 0, .slice none 0 0, .slice none 0 0, .bool false, kv, mv, .slice none 0 0, .slice none 0 0, .slice none 0 0, .slice none 0 0, .int .u64 0, .int .u64 0, .map none, .int .i64 0] 77 (0, 0))

theorem seaIs.cell {w : World} {s : Nat} {kv mv : Value} (h : seaIs w s kv mv) :
    w.cell? ⟨s, 6, none⟩ = some kv ∧ w.cell? ⟨s, 7, none⟩ = some mv ∧ w.frozen? ⟨s, 6, none⟩ = false ∧ w.frozen? ⟨s, 7, none⟩ = false := by
  refine ⟨?_, ?_, frozen_of_row w s _ _ _ h, frozen_of_row w s _ _ _ h⟩
  all_goals rw [cell_of_row w s _ _ _ _ h]; rfl

theorem seaIs.of {w w' : World} {s : Nat} {kv mv : Value} (h : seaIs w s kv mv) (hb : w'.heap[s]? = w.heap[s]?) : seaIs w' s kv mv := hb.trans h
theorem seaIs.put6 {w : World} {s : Nat} {kv mv : Value} (h : seaIs w s kv mv) (v : Value) : seaIs (w.setCell ⟨s, 6, none⟩ v) s v mv := heap_setCell_same w s 6 _ 77 _ h
theorem seaIs.put7 {w : World} {s : Nat} {kv mv : Value} (h : seaIs w s kv mv) (v : Value) : seaIs (w.setCell ⟨s, 7, none⟩ v) s kv v := heap_setCell_same w s 7 _ 77 _ h

/-- The blocks of a loader that never move: loader l, search s, source r, generator p, map m. -/
structure Core (w : World) (B l s r p m : Nat) (T : List (Int × Int)) (kv mv : Value) : Prop where
  lod : lodIs w l s r m
  gen : Gen w r p
  tab : Tab w m T
  sea : seaIs w s kv mv
  base : B ≤ l ∧ B ≤ s ∧ B ≤ p ∧ B ≤ m

/-- A loader: its map numbers the ids T; the keys of the pairs are ks, their marks ms. -/
structure Lo (w : World) (B l s r p m : Nat) (T : List (Int × Int)) (ks ms : List Value) (kv mv : Value) : Prop where
  core : Core w B l s r p m T kv mv
  keys : w.ownsRow B 21 1 kv T.length ks
  marks : w.ownsRow B 36 2 mv T.length ms

theorem five (w : World) (o1 o2 o3 o4 o5 : Obj) :
    (((((w.alloc o1).alloc o2).alloc o3).alloc o4).alloc o5).heap[w.heap.size]? = some o1 ∧ (((((w.alloc o1).alloc o2).alloc o3).alloc o4).alloc o5).heap[w.heap.size + 1]? = some o2 ∧
    (((((w.alloc o1).alloc o2).alloc o3).alloc o4).alloc o5).heap[w.heap.size + 1 + 1]? = some o3 ∧ (((((w.alloc o1).alloc o2).alloc o3).alloc o4).alloc o5).heap[w.heap.size + 1 + 1 + 1]? = some o4 ∧
    (((((w.alloc o1).alloc o2).alloc o3).alloc o4).alloc o5).heap[w.heap.size + 1 + 1 + 1 + 1]? = some o5 := by
  have e1 : (w.alloc o1).heap.size = w.heap.size + 1 := by simp
  have e2 : ((w.alloc o1).alloc o2).heap.size = w.heap.size + 1 + 1 := by simp
  have e3 : (((w.alloc o1).alloc o2).alloc o3).heap.size = w.heap.size + 1 + 1 + 1 := by simp
  have e4 : ((((w.alloc o1).alloc o2).alloc o3).alloc o4).heap.size = w.heap.size + 1 + 1 + 1 + 1 := by simp
  have h1 := Deep.blk_alloc_new w o1
  have h2 := Deep.blk_alloc_new (w.alloc o1) o2
  have h3 := Deep.blk_alloc_new ((w.alloc o1).alloc o2) o3
  have h4 := Deep.blk_alloc_new (((w.alloc o1).alloc o2).alloc o3) o4
  have h5 := Deep.blk_alloc_new ((((w.alloc o1).alloc o2).alloc o3).alloc o4) o5
  rw [e1] at h2; rw [e2] at h3; rw [e3] at h4; rw [e4] at h5
  refine ⟨?_, ?_, ?_, ?_, h5⟩
  · rw [Deep.blk_alloc_lt _ _ _ (by omega), Deep.blk_alloc_lt _ _ _ (by omega), Deep.blk_alloc_lt _ _ _ (by omega), Deep.blk_alloc_lt _ _ _ (by omega)]; exact h1
  · rw [Deep.blk_alloc_lt _ _ _ (by omega), Deep.blk_alloc_lt _ _ _ (by omega), Deep.blk_alloc_lt _ _ _ (by omega)]; exact h2
  · rw [Deep.blk_alloc_lt _ _ _ (by omega), Deep.blk_alloc_lt _ _ _ (by omega)]; exact h3
  · rw [Deep.blk_alloc_lt _ _ _ (by omega)]; exact h4

set_option maxRecDepth 100000 in
theorem make_any (a b : Int) (ha : Word a) (hb : Word b) (w : World) :
    Calls Try.prog 10 #[.int .u64 a, .int .u64 b] w fun e w' => ∃ l s r p m, e = .returned (.pointer (some ⟨l, 0, none⟩)) ∧ Below w.heap.size w w' ∧ Lo w' w.heap.size l s r p m [] [] [] (.slice none 0 0) (.slice none 0 0) := by
  have hm := fun w => run_makeMap (P := Try.prog) 82 w
  go_enter Try.func10, Try.ntmps10
  go_wp2
  go_ret
  obtain ⟨f1, f2, f3, f4, f5⟩ := five w (.cells #[.slice none 0 0, .slice none 0 0, .slice none 0 0, .slice none 0 0, .slice none 0 0, .bool false, .slice none 0 0, .slice none 0 0, .slice none 0 0, .slice none 0 0, .slice none 0 0, .slice none 0 0, .int .u64 0, .int .u64 0, .map none, .int .i64 0] 77) (.cells #[.int .u64 a, .int .u64 b] 100) (.cells #[.iface 80 (.pointer (some ⟨w.heap.size + 1, 0, none⟩))] 98) (.map #[] 0) (.cells #[.pointer (some ⟨w.heap.size, 0, none⟩), .int .i64 0, .pointer (some ⟨w.heap.size + 1 + 1, 0, none⟩), .map (some (w.heap.size + 1 + 1 + 1)), .slice none 0 0, .slice none 0 0, .slice none 0 0] 85)
  refine ⟨w.heap.size + 1 + 1 + 1 + 1, w.heap.size, w.heap.size + 1 + 1, w.heap.size + 1, w.heap.size + 1 + 1 + 1, rfl, ?_, ⟨⟨f5, ⟨⟨a, b, ha, hb, f2⟩, f3⟩, ?_, f1, by omega⟩, ?_, ?_⟩⟩
  · exact (((((Below.refl _ _).alloc (Nat.le_refl _) _).alloc (by simp) _).alloc (by simp; omega) _).alloc (by simp; omega) _).alloc (by simp; omega) _
  · have := Tab.made w
    refine ⟨.map [], ⟨#[], 0, f4, ⟨by simp, Go.MapKept.stamped_empty 0, by simp⟩, Nat.le_refl _, rfl⟩, fun x _ => ⟨by simp [Maps.has_eq], fun h => absurd h (by simp)⟩⟩
  · exact ⟨rfl, .inl ⟨rfl, rfl⟩⟩
  · exact ⟨rfl, .inl ⟨rfl, rfl⟩⟩

theorem keys_of (B l s r p m : Nat) (T : List (Int × Int)) (kv mv : Value) (w : World) (h : Core w B l s r p m T kv mv) :
    Calls Try.prog 12 #[.pointer (some ⟨l, 0, none⟩)] w fun e w' => e = .returned kv ∧ w' = w := by
  obtain ⟨c0, _, _⟩ := h.lod.cell
  obtain ⟨c6, c7, _, _⟩ := h.sea.cell
  clear h
  go_enter Try.func12, Try.ntmps12
  go_wp2
  go_ret
  exact ⟨rfl, rfl⟩

theorem marks_of (B l s r p m : Nat) (T : List (Int × Int)) (kv mv : Value) (w : World) (h : Core w B l s r p m T kv mv) :
    Calls Try.prog 13 #[.pointer (some ⟨l, 0, none⟩)] w fun e w' => e = .returned mv ∧ w' = w := by
  obtain ⟨c0, _, _⟩ := h.lod.cell
  obtain ⟨c6, c7, _, _⟩ := h.sea.cell
  clear h
  go_enter Try.func13, Try.ntmps13
  go_wp2
  go_ret
  exact ⟨rfl, rfl⟩
end Go.Proofs.Qxb6615561a
