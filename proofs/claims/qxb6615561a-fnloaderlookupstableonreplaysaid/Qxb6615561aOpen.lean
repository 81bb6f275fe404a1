/-
  The slices of structs that come in, opened.
-/
import Derived.Test.Qxb6615561aHas
import Derived.Deep.Slices
import Derived.ProofKit
import Derived.OpenShut
namespace Go.Proofs.Qxb6615561a
open Go.ChangeShapes Go.WideShapes Go.ChangeAt Go.RowKit

theorem Try.cells67 : Try.prog.cellsOf 67 = 4 := by kernel_rfl
theorem Try.cells58 : Try.prog.cellsOf 58 = 3 := by kernel_rfl
theorem Try.cells2 : Try.prog.cellsOf 2 = 1 := by kernel_rfl
theorem Try.cells3 : Try.prog.cellsOf 3 = 1 := by kernel_rfl
theorem Try.cells4 : Try.prog.cellsOf 4 = 1 := by kernel_rfl
theorem Try.cells21 : Try.prog.cellsOf 21 = 1 := by kernel_rfl

section
variable {H : Type} {enc : TypeId × Value → H} {w : World}

/-- A list by its elements. -/
theorem list_by {α : Type} (d : α) (n : Nat) (f : Nat → α) : ∃ l : List α, l.length = n ∧ ∀ i, i < n → l.getD i d = f i :=
  ⟨(List.range n).map f, by simp, fun i hi => by simp [hi]⟩

theorem spot_none {x : Addr} {v : Value} (h : w.cell? x = some v) : ∃ b off, x = ⟨b, off, none⟩ ∧ b < w.heap.size := by
  obtain ⟨b, off, spot⟩ := x
  have hs : spot = none := by simpa using World.cell?_spot h
  subst hs
  exact ⟨b, off, rfl, World.block_lt_of_cell? w _ h⟩

theorem len4 {α : Type} (l : List α) (h : l.length = 4) : ∃ a b c d, l = [a, b, c, d] := by
  match l, h with
  | [a, b, c, d], _ => exact ⟨a, b, c, d, rfl⟩
theorem len3 {α : Type} (l : List α) (h : l.length = 3) : ∃ a b c, l = [a, b, c] := by
  match l, h with
  | [a, b, c], _ => exact ⟨a, b, c, rfl⟩

theorem open_accs {fuel : Nat} {a : Option Addr} {len cap : Nat} {x : DataW H × List MemPlace} (h : DataW.trod enc Try.prog w 0 (fun _ => true) true fuel 47 [.slice a len cap] = some x) :
    (a = none → len = 0 ∧ cap = 0) ∧ ∃ l, HasA w a len l := by
  rcases Deep.open_slice Try.underlying47 h with ⟨h0, _⟩ | ⟨ad, len', cap', m, n, D, Pl, h0, hb, hl, hm, hmm, _, hx⟩
  · simp only [List.cons.injEq, Value.slice.injEq, and_true] at h0
    obtain ⟨rfl, rfl, rfl⟩ := h0
    exact ⟨fun _ => ⟨rfl, rfl⟩, [], rfl, fun h => absurd rfl h⟩
  · simp only [List.cons.injEq, Value.slice.injEq, and_true] at h0
    obtain ⟨rfl, rfl, rfl⟩ := h0
    refine ⟨fun h => (by cases h), ?_⟩
    have each : ∀ i, i < len → ∃ y : Acc, w.cell? (ad.add (i * 4)) = some (.int .i64 y.value) ∧ w.cell? (ad.add (i * 4 + 1)) = some (.int .i32 y.key) ∧ w.cell? (ad.add (i * 4 + 2)) = some (.bool y.write) ∧ w.cell? (ad.add (i * 4 + 3)) = some (.bool y.none) := by
      intro i hi
      obtain ⟨cs', h1, h2⟩ := hx i (by rw [hmm]; split <;> omega)
      rw [Try.cells67] at h1
      obtain ⟨_, hlen, hcell⟩ := World.cells?_some h1
      obtain ⟨xs, k, hk, _, _, hxl, hf⟩ := DataW.trod_struct Try.underlying67 h2
      obtain ⟨y0, y1, y2, y3, rfl⟩ := len4 xs (by simpa using hxl)
      obtain ⟨v0, v1, v2, v3, rfl⟩ := len4 cs' hlen
      · skip
        have g0 := hf 0 _ rfl
        have g1 := hf 1 _ rfl
        have g2 := hf 2 _ rfl
        have g3 := hf 3 _ rfl
        simp [Try.cells2, Try.cells21, Try.cells4] at g0 g1 g2 g3
        obtain ⟨n0, e0, _, _⟩ := DataW.trod_int Try.underlying2 g0
        obtain ⟨n1, e1, _, _⟩ := DataW.trod_int Try.underlying21 g1
        obtain ⟨b2, e2, _⟩ := DataW.trod_bool Try.underlying4 g2
        obtain ⟨b3, e3, _⟩ := DataW.trod_bool Try.underlying4 g3
        simp only [List.cons.injEq, and_true] at e0 e1 e2 e3
        subst e0 e1 e2 e3
        have c0 := hcell 0 (by omega)
        have c1 := hcell 1 (by omega)
        have c2 := hcell 2 (by omega)
        have c3 := hcell 3 (by omega)
        rw [Deep.add_add] at c0 c1 c2 c3
        exact ⟨⟨n0, n1, b2, b3⟩, by simpa using c0, by simpa using c1, by simpa using c2, by simpa using c3⟩
    have : Inhabited Acc := ⟨acc0⟩
    obtain ⟨f, hf⟩ := Deep.choose_lt each
    obtain ⟨l, hll, hlf⟩ := list_by acc0 len f
    refine ⟨l, hll, fun hn => ?_⟩
    obtain ⟨b, off, hxx, hblt⟩ := spot_none (hf 0 (by omega)).1
    have hsp : ∃ b off, ad = ⟨b, off, none⟩ := by
      obtain ⟨b', off', spot⟩ := ad
      have hs : spot = none := by simpa [Addr.add] using World.cell?_spot (hf 0 (by omega)).1
      exact ⟨b', off', by rw [hs]⟩
    obtain ⟨b', off', rfl⟩ := hsp
    rw [add_plain] at hxx
    simp only [Addr.mk.injEq] at hxx
    obtain ⟨rfl, _, _⟩ := hxx
    refine ⟨b', off', rfl, hblt, fun i hi => ?_⟩
    rw [hlf i hi]
    obtain ⟨g0, g1, g2, g3⟩ := hf i hi
    rw [add_plain] at g0 g1 g2 g3
    exact ⟨g0, by rw [Nat.add_assoc]; exact g1, by rw [Nat.add_assoc]; exact g2, by rw [Nat.add_assoc]; exact g3⟩

theorem open_wcs {fuel : Nat} {a : Option Addr} {len cap : Nat} {x : DataW H × List MemPlace} (h : DataW.trod enc Try.prog w 0 (fun _ => true) true fuel 48 [.slice a len cap] = some x) :
    (a = none → len = 0 ∧ cap = 0) ∧ ∃ l, HasC w a len l := by
  rcases Deep.open_slice Try.underlying48 h with ⟨h0, _⟩ | ⟨ad, len', cap', m, n, D, Pl, h0, hb, hl, hm, hmm, _, hx⟩
  · simp only [List.cons.injEq, Value.slice.injEq, and_true] at h0
    obtain ⟨rfl, rfl, rfl⟩ := h0
    exact ⟨fun _ => ⟨rfl, rfl⟩, [], rfl, fun h => absurd rfl h⟩
  · simp only [List.cons.injEq, Value.slice.injEq, and_true] at h0
    obtain ⟨rfl, rfl, rfl⟩ := h0
    refine ⟨fun h => (by cases h), ?_⟩
    have each : ∀ i, i < len → ∃ y : Wc, w.cell? (ad.add (i * 3)) = some (.int .i64 y.key) ∧ w.cell? (ad.add (i * 3 + 1)) = some (.int .i64 y.v) ∧ w.cell? (ad.add (i * 3 + 2)) = some (.bool y.none) := by
      intro i hi
      obtain ⟨cs', h1, h2⟩ := hx i (by rw [hmm]; split <;> omega)
      rw [Try.cells58] at h1
      obtain ⟨_, hlen, hcell⟩ := World.cells?_some h1
      obtain ⟨xs, k, hk, _, _, hxl, hf⟩ := DataW.trod_struct Try.underlying58 h2
      obtain ⟨y0, y1, y2, rfl⟩ := len3 xs (by simpa using hxl)
      obtain ⟨v0, v1, v2, rfl⟩ := len3 cs' hlen
      · skip
        have g0 := hf 0 _ rfl
        have g1 := hf 1 _ rfl
        have g2 := hf 2 _ rfl
        simp [Try.cells2, Try.cells3, Try.cells4] at g0 g1 g2
        obtain ⟨n0, e0, _, _⟩ := DataW.trod_int Try.underlying3 g0
        obtain ⟨n1, e1, _, _⟩ := DataW.trod_int Try.underlying2 g1
        obtain ⟨b2, e2, _⟩ := DataW.trod_bool Try.underlying4 g2
        simp only [List.cons.injEq, and_true] at e0 e1 e2
        subst e0 e1 e2
        have c0 := hcell 0 (by omega)
        have c1 := hcell 1 (by omega)
        have c2 := hcell 2 (by omega)
        rw [Deep.add_add] at c0 c1 c2
        exact ⟨⟨n0, n1, b2⟩, by simpa using c0, by simpa using c1, by simpa using c2⟩
    have : Inhabited Wc := ⟨wc0⟩
    obtain ⟨f, hf⟩ := Deep.choose_lt each
    obtain ⟨l, hll, hlf⟩ := list_by wc0 len f
    refine ⟨l, hll, fun hn => ?_⟩
    obtain ⟨b, off, hxx, hblt⟩ := spot_none (hf 0 (by omega)).1
    have hsp : ∃ b off, ad = ⟨b, off, none⟩ := by
      obtain ⟨b', off', spot⟩ := ad
      have hs : spot = none := by simpa [Addr.add] using World.cell?_spot (hf 0 (by omega)).1
      exact ⟨b', off', by rw [hs]⟩
    obtain ⟨b', off', rfl⟩ := hsp
    rw [add_plain] at hxx
    simp only [Addr.mk.injEq] at hxx
    obtain ⟨rfl, _, _⟩ := hxx
    refine ⟨b', off', rfl, hblt, fun i hi => ?_⟩
    rw [hlf i hi]
    obtain ⟨g0, g1, g2⟩ := hf i hi
    rw [add_plain] at g0 g1 g2
    exact ⟨g0, by rw [Nat.add_assoc]; exact g1, by rw [Nat.add_assoc]; exact g2⟩
end
end Go.Proofs.Qxb6615561a
