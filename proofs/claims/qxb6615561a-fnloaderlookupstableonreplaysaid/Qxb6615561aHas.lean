/-
  What is known of the slices of structs that come in, and of those that the call makes.
-/
import Derived.Test.Qxb6615561aRows
import Derived.WalkKit
import Derived.WalkSpells
import Derived.WalkLawsBesides
import Derived.Handy
import Derived.Deep.QuietTactic
import Derived.BigQuiet
import Derived.BigRegion
import Derived.Deep.RegionHeld3
import Derived.Deep.AppendLies
import Derived.Deep.Heap
namespace Go.Proofs.Qxb6615561a
open Go.ChangeShapes Go.WideShapes Go.ChangeAt Go.RowKit

theorem ret_int {k : IntKind} {a b : Int} (h : a = b) : Ending.returned (.int k a) = .returned (.int k b) := by rw [h]
theorem ret_bool {a b : Bool} (h : a = b) : Ending.returned (.bool a) = .returned (.bool b) := by rw [h]

/-- An access: value, key, write, none. -/
structure Acc where
  value : Int
  key : Int
  write : Bool
  none : Bool

/-- A call of write: key, value, none. -/
structure Wc where
  key : Int
  v : Int
  none : Bool

def acc0 : Acc := ⟨0, 0, false, false⟩
def wc0 : Wc := ⟨0, 0, false⟩

def Acc.cells (a : Acc) : List Value := [.int .i64 a.value, .int .i32 a.key, .bool a.write, .bool a.none]

/-- An access's four cells from place 'o' on. -/
def accAt (w : World) (b o : Nat) (x : Acc) : Prop :=
  w.cell? ⟨b, o, none⟩ = some (.int .i64 x.value) ∧ w.cell? ⟨b, o + 1, none⟩ = some (.int .i32 x.key) ∧ w.cell? ⟨b, o + 2, none⟩ = some (.bool x.write) ∧ w.cell? ⟨b, o + 3, none⟩ = some (.bool x.none)

def wcAt (w : World) (b o : Nat) (x : Wc) : Prop :=
  w.cell? ⟨b, o, none⟩ = some (.int .i64 x.key) ∧ w.cell? ⟨b, o + 1, none⟩ = some (.int .i64 x.v) ∧ w.cell? ⟨b, o + 2, none⟩ = some (.bool x.none)

structure HasA (w : World) (a : Option Addr) (n : Nat) (l : List Acc) : Prop where
  len : l.length = n
  at' : n ≠ 0 → ∃ b off, a = some ⟨b, off, none⟩ ∧ b < w.heap.size ∧ ∀ i, i < n → accAt w b (off + i * 4) (l.getD i acc0)

structure HasC (w : World) (a : Option Addr) (n : Nat) (l : List Wc) : Prop where
  len : l.length = n
  at' : n ≠ 0 → ∃ b off, a = some ⟨b, off, none⟩ ∧ b < w.heap.size ∧ ∀ i, i < n → wcAt w b (off + i * 3) (l.getD i wc0)

theorem accAt_of {w w' : World} {b o : Nat} {x : Acc} (h : accAt w b o x) (hb : w'.heap[b]? = w.heap[b]?) : accAt w' b o x := by
  obtain ⟨h1, h2, h3, h4⟩ := h
  exact ⟨(World.cell?_of_block (w := w) hb).trans h1, (World.cell?_of_block (w := w) hb).trans h2, (World.cell?_of_block (w := w) hb).trans h3, (World.cell?_of_block (w := w) hb).trans h4⟩

theorem wcAt_of {w w' : World} {b o : Nat} {x : Wc} (h : wcAt w b o x) (hb : w'.heap[b]? = w.heap[b]?) : wcAt w' b o x := by
  obtain ⟨h1, h2, h3⟩ := h
  exact ⟨(World.cell?_of_block (w := w) hb).trans h1, (World.cell?_of_block (w := w) hb).trans h2, (World.cell?_of_block (w := w) hb).trans h3⟩

theorem HasA.below {w w' : World} {a : Option Addr} {n : Nat} {l : List Acc} (h : HasA w a n l) (hb : Below w.heap.size w w') : HasA w' a n l := by
  refine ⟨h.len, fun hn => ?_⟩
  obtain ⟨b, off, ha, hlt, hc⟩ := h.at' hn
  exact ⟨b, off, ha, Nat.lt_of_lt_of_le hlt hb.size, fun i hi => accAt_of (hc i hi) (hb.block b hlt)⟩

theorem HasC.below {w w' : World} {a : Option Addr} {n : Nat} {l : List Wc} (h : HasC w a n l) (hb : Below w.heap.size w w') : HasC w' a n l := by
  refine ⟨h.len, fun hn => ?_⟩
  obtain ⟨b, off, ha, hlt, hc⟩ := h.at' hn
  exact ⟨b, off, ha, Nat.lt_of_lt_of_le hlt hb.size, fun i hi => wcAt_of (hc i hi) (hb.block b hlt)⟩

/-! ### keysInRange -/
def okKey (x : Wc) : Bool := decide (-2147483648 ≤ x.key) && decide (x.key ≤ 2147483647)
def okKeys (l : List Wc) : Bool := l.all okKey

theorem okKeys_at (l : List Wc) (h : ∀ i, i < l.length → okKey (l.getD i wc0) = true) : okKeys l = true := by
  unfold okKeys
  rw [List.all_eq_true]
  intro x hx
  obtain ⟨i, hi, rfl⟩ := List.getElem_of_mem hx
  simpa [hi] using h i hi
theorem okKeys_not (l : List Wc) (k : Nat) (hk : k < l.length) (h : okKey (l.getD k wc0) = false) : okKeys l = false := by
  unfold okKeys
  rw [List.all_eq_false]
  refine ⟨l[k], List.getElem_mem _, ?_⟩
  have e : l.getD k wc0 = l[k] := by simp [hk]
  rw [e] at h; simp [h]

set_option maxHeartbeats 1000000 in
theorem keys_any (a : Option Addr) (n c : Nat) (l : List Wc) (w : World) (hm : n ≤ 1048576) (hz : HasC w a n l) :
    Calls Try.prog 22 #[.slice a n c] w fun e w' => e = .returned (.bool (okKeys l)) ∧ w' = w := by
  have HZ : Hid (HasC w a n l) := hz
  clear hz
  go_enter Try.func22, Try.ntmps22
  go_wp2
  go_loop [3] (fun i => ∃ k : Nat, k ≤ n ∧ i = .int .i64 k ∧ ∀ j, j < k → okKey (l.getD j wc0) = true) (fun i => n - (intOf i).toNat)
  case atStart => exact ⟨0, Nat.zero_le _, rfl, fun j hj => absurd hj (Nat.not_lt_zero _)⟩
  case round =>
    obtain ⟨k, hk, rfl, hall⟩ := hrel
    have HA : Hid (∀ j, j < k → okKey (l.getD j wc0) = true) := hall
    clear hall
    by_cases hlt : k < n
    · obtain ⟨b, off, rfl, hb, hcell⟩ := HZ.out.at' (by omega)
      obtain ⟨c1, c2, c3⟩ := hcell k hlt
      have hl : k < l.length := by have := HZ.out.len; omega
      obtain ⟨x, hx⟩ : ∃ x, x = l.getD k wc0 := ⟨_, rfl⟩
      have HX : Hid (x = l.getD k wc0) := hx
      rw [← hx] at c1 c2 c3
      clear hx hcell
      obtain ⟨kk, vv, nn⟩ := x
      simp only at c1 c2 c3
      by_cases h1 : -2147483648 ≤ kk
      · by_cases h2 : kk ≤ 2147483647
        · have d1 : decide (kk < -2147483648) = false := decide_eq_false (by omega)
          go_wp2
          go_round
          case rel =>
            refine ⟨k + 1, by omega, by go_num, fun j hj => ?_⟩
            by_cases hjk : j < k
            · exact HA.out j hjk
            · obtain rfl : j = k := by omega
              rw [← HX.out]; simp [okKey, h1, h2]
          case measure => simp [intOf]; omega
        · have d1 : decide (kk < -2147483648) = false := decide_eq_false (by omega)
          go_wp2
          go_ret
          exact ⟨ret_bool (by rw [okKeys_not l k hl (by rw [← HX.out]; simp [okKey]; omega)]), rfl⟩
      · go_wp2
        go_ret
        exact ⟨ret_bool (by rw [okKeys_not l k hl (by rw [← HX.out]; simp [okKey]; omega)]), rfl⟩
    · obtain rfl : k = n := by omega
      go_wp2
      go_ret
      exact ⟨ret_bool (okKeys_at l (by rw [HZ.out.len]; exact HA.out)).symm, rfl⟩
end Go.Proofs.Qxb6615561a
