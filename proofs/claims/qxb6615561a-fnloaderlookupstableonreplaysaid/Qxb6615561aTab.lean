/-
  The loader's map, read as a plain list of ids: an id's number is its place in the list.
-/
import Derived.Test.Qxb6615561aMark
import Derived.Maps.Own
import Derived.Maps.OwnSet
import Derived.Maps.Views
import Derived.WideKeyPair
import Derived.DeepKeys4
namespace Go.Proofs.Qxb6615561a
open Go.ChangeShapes Go.WideShapes Go.ChangeAt Go.RowKit
open Go.Maps (Keyed)

theorem laidOut : laidOutB Try.prog = true := by kernel_rfl
theorem under82 : Try.prog.underlying 82 = some (.map 102 21) := by kernel_rfl
theorem under21 : Try.prog.underlying 21 = some (.int .i32) := by kernel_rfl
theorem under2 : Try.prog.underlying 2 = some (.int .i64) := by kernel_rfl
theorem law102 : Keyed Try.prog 102 := Keyed.of_law (deep_law_laid laidOut (m := 2) (by omega) (of_decide_eq_true (by kernel_rfl)) (by kernel_rfl) (by kernel_rfl))
theorem arr102 : Go.WideMaps.ArrKey Try.prog 102 2 2 := ⟨by kernel_rfl, by kernel_rfl, by kernel_rfl, by kernel_rfl⟩

/-- The bytes that an id reads as. -/
def idKey (x : Int × Int) : Lit := .string (keyBytes [.int .i64 x.1, .int .i64 x.2])
/-- Both numbers lie in int64. -/
def IdOk (x : Int × Int) : Prop := (Lit.int .i64 x.1).wf = true ∧ (Lit.int .i64 x.2).wf = true

theorem idOk_of {a b : Int} (h1 : -9223372036854775808 ≤ a) (h2 : a ≤ 9223372036854775807) (h3 : -9223372036854775808 ≤ b) (h4 : b ≤ 9223372036854775807) : IdOk (a, b) := by
  constructor <;> simp [Lit.wf, IntKind.min, IntKind.max, IntKind.signed, IntKind.bits] <;> omega

theorem keyOf_id {x : Int × Int} (h : IdOk x) : keyOf Try.prog 102 (.agg #[.int .i64 x.1, .int .i64 x.2]) = some (idKey x) :=
  Go.WideMaps.keyOf_pair arr102 under2 ⟨Try.prog.types.size - 1, by kernel_rfl⟩ h.1 h.2

theorem idKey_inj {x y : Int × Int} (hx : IdOk x) (hy : IdOk y) (h : idKey x = idKey y) : x = y := by
  have := law102.inj (keyOf_id hx) ((keyOf_id hy).trans (by rw [h]))
  simp at this
  exact Prod.ext this.1 this.2

theorem idKey_key {x : Int × Int} (h : IdOk x) : WideAt.IsKeyLit (idKey x) := law102.key (keyOf_id h)

/-- Block m is a map that numbers the ids of T by their places. -/
def Tab (w : World) (m : Nat) (T : List (Int × Int)) : Prop :=
  ∃ D : DataW Unit, w.ownsMap Try.prog 102 (plainElem Try.prog 21) m T.length D ∧ ∀ x, IdOk x → Maps.has D (idKey x) = decide (x ∈ T) ∧ (x ∈ T → ∀ z, D.atKey (idKey x) z = .lit (.int .i32 (T.idxOf x)))

theorem Tab.of {w w' : World} {m : Nat} {T : List (Int × Int)} (h : Tab w m T) (hb : w'.heap[m]? = w.heap[m]?) : Tab w' m T := by
  obtain ⟨D, ⟨es, clock, h1, h2⟩, h3⟩ := h
  exact ⟨D, ⟨es, clock, hb.trans h1, h2⟩, h3⟩

theorem Tab.lt {w : World} {m : Nat} {T : List (Int × Int)} (h : Tab w m T) : m < w.heap.size := by
  obtain ⟨D, h1, _⟩ := h
  exact h1.lt

theorem Tab.map {w : World} {m : Nat} {T : List (Int × Int)} (h : Tab w m T) : ∃ es clock, w.heap[m]? = some (.map es clock) := by
  obtain ⟨D, ⟨es, clock, h1, h2⟩, h3⟩ := h
  exact ⟨es, clock, h1⟩

theorem Tab.made (w : World) : Tab (w.alloc (.map #[] 0)) w.heap.size [] :=
  ⟨.map [], World.ownsMap_made _ _ _ _, fun x _ => ⟨by simp [Maps.has_eq], fun h => absurd h (by simp)⟩⟩

theorem zero21 (w : World) : (zeroValue 21).run Try.prog w = .ok (.int .i32 0) w := by kernel_rfl

theorem Tab.look {w : World} {m : Nat} {T : List (Int × Int)} (h : Tab w m T) {x : Int × Int} (hx : IdOk x) (hm : x ∈ T) :
    (Instr.lookup 82 (.map (some m)) (.agg #[.int .i64 x.1, .int .i64 x.2]) true).run Try.prog w = .ok (.tuple #[.int .i32 (T.idxOf x), .bool true]) w := by
  obtain ⟨D, h1, h2⟩ := h
  obtain ⟨v, ps, hr, hv⟩ := h1.look_ok law102 under82 (zero21 w) (plainElem_int (H := Unit) under21 (a := 0) (by decide)) (keyOf_id hx)
  obtain ⟨a, rfl, ha, _⟩ := plainElem_int_inv under21 hv
  have e : a = (T.idxOf x : Int) := by
    have := (h2 x hx).2 hm (.lit (.int .i32 0))
    rw [this] at ha
    simp at ha
    exact ha.1.symm
  rw [hr, (h2 x hx).1, e, decide_eq_true hm]

theorem Tab.miss {w : World} {m : Nat} {T : List (Int × Int)} (h : Tab w m T) {x : Int × Int} (hx : IdOk x) (hm : x ∉ T) :
    (Instr.lookup 82 (.map (some m)) (.agg #[.int .i64 x.1, .int .i64 x.2]) true).run Try.prog w = .ok (.tuple #[.int .i32 0, .bool false]) w := by
  obtain ⟨D, h1, h2⟩ := h
  obtain ⟨v, ps, hr, hv⟩ := h1.look_ok law102 under82 (zero21 w) (plainElem_int (H := Unit) under21 (a := 0) (by decide)) (keyOf_id hx)
  obtain ⟨a, rfl, ha, _⟩ := plainElem_int_inv under21 hv
  have e : a = (0 : Int) := by
    have hh := (h2 x hx).1
    rw [decide_eq_false hm] at hh
    rw [Maps.atKey_of_not_has hh] at ha
    simp at ha
    exact ha.1.symm
  rw [hr, (h2 x hx).1, e, decide_eq_false hm]

theorem Tab.put {w : World} {m : Nat} {T : List (Int × Int)} (h : Tab w m T) {x : Int × Int} (hx : IdOk x) (hn : x ∉ T) (hl : T.length ≤ 1048576) :
    ∃ w', (Instr.mapUpdate 82 (.map (some m)) (.agg #[.int .i64 x.1, .int .i64 x.2]) (.int .i32 T.length)).run Try.prog w = .ok () w' ∧ Tab w' m (T ++ [x]) ∧ w.grownBy w' (some m) := by
  obtain ⟨D, h1, h2⟩ := h
  have hw : (Lit.int .i32 (T.length : Int)).wf = true := by simp [Lit.wf, IntKind.min, IntKind.max, IntKind.signed, IntKind.bits]; omega
  obtain ⟨w', hr, ho, ht⟩ := h1.store law102 under82 (by unfold maxLen; omega) (keyOf_id hx) (plainElem_int (H := Unit) under21 hw)
  refine ⟨w', hr, ⟨_, by simpa using ho, fun y hy => ?_⟩, ht.grown⟩
  by_cases e : y = x
  · subst e
    refine ⟨by rw [Maps.has_put_same h1.isMap (idKey_key hy)]; simp, fun _ z => ?_⟩
    rw [Maps.atKey_put_same h1.isMap (idKey_key hy), List.idxOf_append, if_neg hn]
    simp
  · have ne : idKey y ≠ idKey x := fun h => e (idKey_inj hy hx h)
    refine ⟨?_, fun hm z => ?_⟩
    · rw [Maps.has_put_other ne, (h2 y hy).1]; simp [e]
    · have hm' : y ∈ T := by simpa [e] using hm
      rw [Maps.atKey_put_other ne, (h2 y hy).2 hm' z, List.idxOf_append, if_pos hm']
end Go.Proofs.Qxb6615561a
