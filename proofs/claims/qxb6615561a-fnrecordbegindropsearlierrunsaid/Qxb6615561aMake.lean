/-
  toZZAccesses and ZZnewRecord at whatever slice; the size looks.
-/
import Derived.Test.Qxb6615561aLogw
namespace Go.Proofs.Qxb6615561a
open Go.ChangeShapes Go.WideShapes Go.ChangeAt Go.RowKit

theorem to_any (a : Option Addr) (n c : Nat) (l : List Acc) (w : World) (hm : n ≤ 1048576) (hz : HasA w a n l) (h0 : a = none → n = 0 ∧ c = 0) :
    Calls Try.prog 24 #[.slice a n c] w fun e w' => ∃ a1, e = .returned (.slice a1 n n) ∧ Below w.heap.size w w' ∧ HasA w' a1 n l ∧ (a1 = none → n = 0) := by
  cases a with
  | none =>
    obtain ⟨rfl, rfl⟩ := h0 rfl
    refine (to_nil w).mono ?_
    rintro e w' ⟨rfl, rfl⟩
    exact ⟨none, rfl, Below.refl _ _, hz, fun _ => rfl⟩
  | some x =>
    refine (to_some x n c l w hm hz).mono ?_
    rintro e w' ⟨rfl, hb, hr⟩
    exact ⟨_, rfl, hb, hr.has hz.len, fun h => by cases h⟩

theorem RowA.flat {w : World} {g t n : Nat} {l : List Acc} {cur : Array Value} (h : RowA w g t n n l) (hc : w.heap[g]? = some (.cells cur t (0, 0))) (hl : l.length = n) : cur.toList = flat l := by
  obtain ⟨cur', hc', hs⟩ := h.row
  rw [hc] at hc'
  simp only [Option.some.injEq, Obj.cells.injEq, and_true] at hc'
  obtain rfl := hc'
  apply List.ext_getElem?
  intro j
  by_cases hj : j < n * 4
  · obtain ⟨i, q, hq, rfl⟩ : ∃ i q, q < 4 ∧ j = i * 4 + q := ⟨j / 4, j % 4, by omega, by omega⟩
    obtain ⟨a0, a1, a2, a3⟩ := h.acc i (by omega)
    obtain ⟨b0, b1, b2, b3⟩ := flat_at l i (by omega)
    rw [cell_of_row w g _ cur t _ hc] at a0 a1 a2 a3
    match q, hq with
    | 0, _ => simpa [b0] using a0
    | 1, _ => simpa [b1] using a1
    | 2, _ => simpa [b2] using a2
    | 3, _ => simpa [b3] using a3
  · rw [List.getElem?_eq_none (by simp; omega), List.getElem?_eq_none (by rw [flat_length]; omega)]

theorem nrec_any (B : Nat) (st en : Int) (co : Bool) (a : Option Addr) (n : Nat) (l : List Acc) (w : World) (hm : n ≤ 1048576) (hz : HasA w a n l) (h0 : a = none → n = 0) (hB : B ≤ w.heap.size) :
    Calls Try.prog 23 #[.int .i64 st, .int .i64 en, .bool co, .slice a n n] w fun e w' => ∃ r v, e = .returned (.pointer (some ⟨r, 0, none⟩)) ∧ Below w.heap.size w w' ∧ Log w' B r st en co n (flat l) v := by
  have hl := hz.len
  cases a with
  | none =>
    obtain rfl := h0 rfl
    have e : l = [] := List.eq_nil_of_length_eq_zero hl
    subst e
    refine (nrec_nil st en co w).mono ?_
    rintro e w' ⟨rfl, hb, hr⟩
    exact ⟨_, _, rfl, hb, hr, ⟨rfl, .inl ⟨rfl, rfl⟩⟩, fun h => by simp [Value.ownBlock] at h, hB⟩
  | some x =>
    refine (nrec_some st en co x n n l w hm hz).mono ?_
    rintro e w' ⟨rfl, hb, hr, hrow⟩
    obtain ⟨cur, hc, hs⟩ := hrow.row
    refine ⟨_, _, rfl, hb, hr, ⟨by rw [flat_length, hl], .inr ⟨_, n, cur, rfl, by omega, hc, Nat.le_refl _, by unfold maxLen; omega, hs, ?_⟩⟩, fun h => ?_, hB⟩
    · rw [List.take_of_length_le (by simp; omega)]
      exact hrow.flat hc hl
    · simp only [Value.ownBlock, Option.some.injEq] at h; omega

theorem bytesW (x y : Int) (z : Bool) (a a' : Option Addr) (n c n' c' : Nat) (w : World) (hm : n + n' ≤ 1048576) :
    Calls Try.prog 32 #[.int .i64 x, .int .i64 y, .bool z, .slice a n c, .slice a' n' c'] w fun e w' => e = .returned (.bool true) ∧ w' = w := by
  have h1 : n ≤ 1048576 := by omega
  have h2 : n' ≤ 1048576 := by omega
  go_enter Try.func32, Try.ntmps32
  go_wp2
  go_ret
  exact ⟨rfl, rfl⟩

theorem bytesW_no (x y : Int) (z : Bool) (a a' : Option Addr) (n c n' c' : Nat) (w : World) (hm : 1048576 < n + n') :
    Calls Try.prog 32 #[.int .i64 x, .int .i64 y, .bool z, .slice a n c, .slice a' n' c'] w fun e w' => e = .returned (.bool false) ∧ w' = w := by
  by_cases h1 : n ≤ 1048576
  · by_cases h2 : n' ≤ 1048576
    · go_enter Try.func32, Try.ntmps32
      go_wp2
      go_ret
      exact ⟨rfl, rfl⟩
    · go_enter Try.func32, Try.ntmps32
      go_wp2
      go_ret
      exact ⟨rfl, rfl⟩
  · go_enter Try.func32, Try.ntmps32
    go_wp2
    go_ret
    exact ⟨rfl, rfl⟩
end Go.Proofs.Qxb6615561a
