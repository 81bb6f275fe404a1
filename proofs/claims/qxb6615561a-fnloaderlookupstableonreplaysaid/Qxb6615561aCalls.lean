/-
  The calls of lookUp that come in; the table of their ids; sameLookUpCall.
-/
import Derived.Test.Qxb6615561aLook
import Derived.Test.Qxb6615561aOpen
namespace Go.Proofs.Qxb6615561a
open Go.ChangeShapes Go.WideShapes Go.ChangeAt Go.RowKit

/-- A call of lookUp. -/
structure Lc where
  key : Int
  v : Int
  none : Bool

def lc0 : Lc := ⟨0, 0, false⟩
def Lc.id (x : Lc) : Int × Int := idOf x.key x.v x.none
def Lc.Ok (x : Lc) : Prop := (-2147483648 ≤ x.key ∧ x.key ≤ 2147483647) ∧ (-9223372036854775808 ≤ x.v ∧ x.v ≤ 9223372036854775807)
def Lc.same (x y : Lc) : Bool := decide (x.key = y.key) && decide (x.v = y.v) && decide (x.none = y.none)

theorem Lc.same_iff (x y : Lc) : x.same y = true ↔ x.id = y.id := by
  constructor
  · intro h
    simp [Lc.same] at h
    obtain ⟨⟨h1, h2⟩, h3⟩ := h
    unfold Lc.id
    rw [h1, h2, h3]
  · intro h
    obtain ⟨h1, h2, h3⟩ := idOf_inj h
    simp [Lc.same, h1, h2, h3]

def lcAt (w : World) (b o : Nat) (x : Lc) : Prop :=
  w.cell? ⟨b, o, none⟩ = some (.int .i32 x.key) ∧ w.cell? ⟨b, o + 1, none⟩ = some (.int .i64 x.v) ∧ w.cell? ⟨b, o + 2, none⟩ = some (.bool x.none)

structure HasL (w : World) (a : Option Addr) (n : Nat) (l : List Lc) : Prop where
  len : l.length = n
  ok : ∀ i, i < n → (l.getD i lc0).Ok
  at' : n ≠ 0 → ∃ b off, a = some ⟨b, off, none⟩ ∧ b < w.heap.size ∧ ∀ i, i < n → lcAt w b (off + i * 3) (l.getD i lc0)

theorem lcAt_of {w w' : World} {b o : Nat} {x : Lc} (h : lcAt w b o x) (hb : w'.heap[b]? = w.heap[b]?) : lcAt w' b o x := by
  obtain ⟨h1, h2, h3⟩ := h
  exact ⟨(World.cell?_of_block (w := w) hb).trans h1, (World.cell?_of_block (w := w) hb).trans h2, (World.cell?_of_block (w := w) hb).trans h3⟩

theorem HasL.below {w w' : World} {a : Option Addr} {n : Nat} {l : List Lc} (h : HasL w a n l) (hb : Below w.heap.size w w') : HasL w' a n l := by
  refine ⟨h.len, h.ok, fun hn => ?_⟩
  obtain ⟨b, off, ha, hlt, hc⟩ := h.at' hn
  exact ⟨b, off, ha, Nat.lt_of_lt_of_le hlt hb.size, fun i hi => lcAt_of (hc i hi) (hb.block b hlt)⟩

/-- The ids in the order of their first appearance. -/
def addId (T : List (Int × Int)) (x : Lc) : List (Int × Int) := if x.id ∈ T then T else T ++ [x.id]
def tabOf (l : List Lc) : List (Int × Int) := l.foldl addId []

theorem tabOf_snoc (l : List Lc) (x : Lc) : tabOf (l ++ [x]) = addId (tabOf l) x := by simp [tabOf, List.foldl_append]

theorem mem_tabOf (l : List Lc) (p : Int × Int) : p ∈ tabOf l ↔ ∃ x ∈ l, x.id = p := by
  have key : ∀ (l : List Lc) (T : List (Int × Int)), p ∈ l.foldl addId T ↔ p ∈ T ∨ ∃ x ∈ l, x.id = p := by
    intro l
    induction l with
    | nil => intro T; simp
    | cons x l ih =>
      intro T
      rw [List.foldl_cons, ih]
      unfold addId
      split
      · rename_i h
        simp only [List.mem_cons, exists_eq_or_imp]
        constructor
        · rintro (h1 | h1)
          · exact .inl h1
          · exact .inr (.inr h1)
        · rintro (h1 | h1 | h1)
          · exact .inl h1
          · subst h1; exact .inl h
          · exact .inr h1
      · simp only [List.mem_append, List.mem_cons, List.not_mem_nil, or_false, exists_eq_or_imp]
        constructor
        · rintro ((h1 | h1) | h1)
          · exact .inl h1
          · exact .inr (.inl h1.symm)
          · exact .inr (.inr h1)
        · rintro (h1 | h1 | h1)
          · exact .inl (.inl h1)
          · exact .inl (.inr h1.symm)
          · exact .inr h1
  have := key l []
  simpa [tabOf] using this

theorem take_snoc (l : List Lc) (k : Nat) (h : k < l.length) : l.take (k + 1) = l.take k ++ [l.getD k lc0] := by
  rw [List.take_add_one]
  simp [h]

theorem tabOf_take (l : List Lc) (k : Nat) (h : k < l.length) : tabOf (l.take (k + 1)) = addId (tabOf (l.take k)) (l.getD k lc0) := by
  rw [take_snoc l k h, tabOf_snoc]

theorem tabOf_length_le (l : List Lc) : (tabOf l).length ≤ l.length := by
  have key : ∀ (l : List Lc) (T : List (Int × Int)), (l.foldl addId T).length ≤ T.length + l.length := by
    intro l
    induction l with
    | nil => intro T; simp
    | cons x l ih =>
      intro T
      rw [List.foldl_cons]
      refine Nat.le_trans (ih _) ?_
      unfold addId
      split <;> simp <;> omega
  simpa [tabOf] using key l []

theorem mem_take {l : List Lc} {k j : Nat} (hj : j < k) (hk : k ≤ l.length) : (l.getD j lc0).id ∈ tabOf (l.take k) := by
  rw [mem_tabOf]
  refine ⟨l.getD j lc0, ?_, rfl⟩
  rw [List.mem_take_iff_getElem]
  exact ⟨j, by omega, by simp [show j < l.length by omega]⟩

theorem not_mem_take {l : List Lc} {k : Nat} {p : Int × Int} (h : ∀ j, j < k → (l.getD j lc0).id ≠ p) : p ∉ tabOf (l.take k) := by
  rw [mem_tabOf]
  rintro ⟨x, hx, hp⟩
  rw [List.mem_take_iff_getElem] at hx
  obtain ⟨j, hj, rfl⟩ := hx
  refine h j (by omega) ?_
  rw [← hp]
  simp [show j < l.length by omega]

section
variable {H : Type} {enc : TypeId × Value → H} {w : World}
theorem Try.cells32 : Try.prog.cellsOf 32 = 3 := by kernel_rfl

theorem open_lcs {fuel : Nat} {a : Option Addr} {len cap : Nat} {x : DataW H × List MemPlace} (h : DataW.trod enc Try.prog w 0 (fun _ => true) true fuel 23 [.slice a len cap] = some x) :
    (a = none → len = 0 ∧ cap = 0) ∧ ∃ l, HasL w a len l := by
  rcases Deep.open_slice Try.underlying23 h with ⟨h0, _⟩ | ⟨ad, len', cap', m, n, D, Pl, h0, hb, hl, hm, hmm, _, hx⟩
  · simp only [List.cons.injEq, Value.slice.injEq, and_true] at h0
    obtain ⟨rfl, rfl, rfl⟩ := h0
    exact ⟨fun _ => ⟨rfl, rfl⟩, [], rfl, fun i hi => absurd hi (Nat.not_lt_zero _), fun h => absurd rfl h⟩
  · simp only [List.cons.injEq, Value.slice.injEq, and_true] at h0
    obtain ⟨rfl, rfl, rfl⟩ := h0
    refine ⟨fun h => (by cases h), ?_⟩
    have each : ∀ i, i < len → ∃ y : Lc, y.Ok ∧ w.cell? (ad.add (i * 3)) = some (.int .i32 y.key) ∧ w.cell? (ad.add (i * 3 + 1)) = some (.int .i64 y.v) ∧ w.cell? (ad.add (i * 3 + 2)) = some (.bool y.none) := by
      intro i hi
      obtain ⟨cs', h1, h2⟩ := hx i (by rw [hmm]; split <;> omega)
      rw [Try.cells32] at h1
      obtain ⟨_, hlen, hcell⟩ := World.cells?_some h1
      obtain ⟨xs, k, hk, _, _, hxl, hf⟩ := DataW.trod_struct Try.underlying32 h2
      obtain ⟨y0, y1, y2, rfl⟩ := len3 xs (by simpa using hxl)
      obtain ⟨v0, v1, v2, rfl⟩ := len3 cs' hlen
      · skip
        have g0 := hf 0 _ rfl
        have g1 := hf 1 _ rfl
        have g2 := hf 2 _ rfl
        simp [Try.cells2, Try.cells21, Try.cells4] at g0 g1 g2
        obtain ⟨n0, e0, _, k0⟩ := DataW.trod_int Try.underlying21 g0
        obtain ⟨n1, e1, _, k1⟩ := DataW.trod_int Try.underlying2 g1
        obtain ⟨b2, e2, _⟩ := DataW.trod_bool Try.underlying4 g2
        simp only [List.cons.injEq, and_true] at e0 e1 e2
        subst e0 e1 e2
        have c0 := hcell 0 (by omega)
        have c1 := hcell 1 (by omega)
        have c2 := hcell 2 (by omega)
        rw [Deep.add_add] at c0 c1 c2
        simp [Lit.wf, IntKind.min, IntKind.max, IntKind.signed, IntKind.bits] at k0 k1
        exact ⟨⟨n0, n1, b2⟩, ⟨k0, k1⟩, by simpa using c0, by simpa using c1, by simpa using c2⟩
    have : Inhabited Lc := ⟨lc0⟩
    obtain ⟨f, hf⟩ := Deep.choose_lt each
    obtain ⟨l, hll, hlf⟩ := list_by lc0 len f
    refine ⟨l, hll, fun i hi => by rw [hlf i hi]; exact (hf i hi).1, fun hn => ?_⟩
    obtain ⟨b, off, hxx, hblt⟩ := spot_none (hf 0 (by omega)).2.1
    have hsp : ∃ b off, ad = ⟨b, off, none⟩ := by
      obtain ⟨b', off', spot⟩ := ad
      have hs : spot = none := by simpa [Addr.add] using World.cell?_spot (hf 0 (by omega)).2.1
      exact ⟨b', off', by rw [hs]⟩
    obtain ⟨b', off', rfl⟩ := hsp
    rw [add_plain] at hxx
    simp only [Addr.mk.injEq] at hxx
    obtain ⟨rfl, _, _⟩ := hxx
    refine ⟨b', off', rfl, hblt, fun i hi => ?_⟩
    rw [hlf i hi]
    obtain ⟨_, g0, g1, g2⟩ := hf i hi
    rw [add_plain] at g0 g1 g2
    exact ⟨g0, by rw [Nat.add_assoc]; exact g1, by rw [Nat.add_assoc]; exact g2⟩
end

theorem same_any (x y : Lc) (w : World) :
    Calls Try.prog 35 #[.agg #[.int .i32 x.key, .int .i64 x.v, .bool x.none], .agg #[.int .i32 y.key, .int .i64 y.v, .bool y.none]] w fun e w' => e = .returned (.bool (x.same y)) ∧ w.grownBy w' none := by
  obtain ⟨k, v, n⟩ := x
  obtain ⟨k', v', n'⟩ := y
  simp only [Lc.same]
  by_cases h1 : k = k'
  · subst h1
    by_cases h2 : v = v'
    · subst h2
      go_enter Try.func35, Try.ntmps35
      go_wp2
      go_ret
      exact ⟨ret_bool (by cases n <;> cases n' <;> rfl), (World.grownBy_alloc w _ none).trans (World.grownBy_alloc _ _ none)⟩
    · go_enter Try.func35, Try.ntmps35
      go_wp2
      go_ret
      exact ⟨ret_bool (by simp [h2]), (World.grownBy_alloc w _ none).trans (World.grownBy_alloc _ _ none)⟩
  · go_enter Try.func35, Try.ntmps35
    go_wp2
    go_ret
    exact ⟨ret_bool (by simp [h1]), (World.grownBy_alloc w _ none).trans (World.grownBy_alloc _ _ none)⟩
end Go.Proofs.Qxb6615561a
