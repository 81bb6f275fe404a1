/-
  ceilDiv, ZZceilDiv.
-/
import Derived.Test.Qxb6615731aRows
import Derived.WalkKit
import Derived.WalkSpells
import Derived.WalkLawsBesides
import Derived.Handy
namespace Go.Proofs.Qxb6615731a
open Go.ChangeShapes Go.WideShapes Go.ChangeAt Go.RowKit

theorem ret_int {k : IntKind} {a b : Int} (h : a = b) : Ending.returned (.int k a) = .returned (.int k b) := by rw [h]

def cd (a b : Int) : Int := (a + b - 1) / b

theorem cd_nonneg (a b : Int) (h0 : 0 ≤ a) (h1 : 0 < b) : 0 ≤ cd a b := Int.ediv_nonneg (by omega) (by omega)
theorem cd_le (a b : Int) (h0 : 0 ≤ a) (h1 : 0 < b) : cd a b ≤ a + b - 1 := Int.ediv_le_self _ (by omega)

theorem wrap_twice (x : Int) (h1 : 9223372036854775807 < x) (h2 : x ≤ 9223372036854775808) : wrap64 (wrap64 x - 1) = x - 1 := by
  unfold wrap64; omega
theorem wrap_in (x : Int) (h1 : 0 ≤ x) (h2 : x ≤ 9223372036854775807) : wrap64 x = x := by
  unfold wrap64; omega

theorem cd_wrapped (a b : Int) (h0 : 0 ≤ a) (h1 : 0 < b) (h2 : 9223372036854775807 < a + b) (h3 : a + b ≤ 9223372036854775808) : wrap64 ((wrap64 (wrap64 (a + b) - 1)).tdiv b) = cd a b := by
  rw [wrap_twice _ h2 h3, Int.tdiv_eq_ediv_of_nonneg (by omega)]
  have n := cd_nonneg a b h0 h1
  have l := cd_le a b h0 h1
  unfold cd at n l ⊢
  exact wrap_in _ n (by omega)

theorem ceil_low (a b : Int) (w : World) (h0 : 0 ≤ a) (h1 : 0 < b) (h2 : a + b ≤ 9223372036854775807) :
    Calls Try.prog 11 #[.int .i64 a, .int .i64 b] w fun e w' => e = .returned (.int .i64 (cd a b)) ∧ w' = w := by
  have hb : (b == 0) = false := by simp; omega
  go_enter Try.func11, Try.ntmps11
  go_wp2
  go_ret
  exact ⟨ret_int rfl, rfl⟩

theorem ceil_high (a b : Int) (w : World) (h0 : 0 ≤ a) (h1 : 0 < b) (h2 : 9223372036854775807 < a + b) (h3 : a + b ≤ 9223372036854775808) :
    Calls Try.prog 11 #[.int .i64 a, .int .i64 b] w fun e w' => e = .returned (.int .i64 (cd a b)) ∧ w' = w := by
  have hb : (b == 0) = false := by simp; omega
  have HW : Hid _ := cd_wrapped a b h0 h1 h2 h3
  clear h3
  go_enter Try.func11, Try.ntmps11
  go_wp2
  go_ret
  exact ⟨ret_int HW.out, rfl⟩

theorem ceil_any (a b : Int) (w : World) (h0 : 0 ≤ a) (h1 : 0 < b) (h2 : a + b ≤ 9223372036854775808) :
    Calls Try.prog 5 #[.int .i64 a, .int .i64 b] w fun e w' => e = .returned (.int .i64 (cd a b)) ∧ w' = w := by
  have H : Hid (∀ w, Calls Try.prog 11 #[.int .i64 a, .int .i64 b] w fun e w' => e = .returned (.int .i64 (cd a b)) ∧ w' = w) := by
    intro w
    by_cases h : a + b ≤ 9223372036854775807
    · exact ceil_low a b w h0 h1 h
    · exact ceil_high a b w h0 h1 (by omega) h2
  clear h2
  go_enter Try.func5, Try.ntmps5
  go_wp2_with (go_at_call 11; refine (H.out _).mono ?_; rintro e w' ⟨rfl, rfl⟩)
  go_ret
  exact ⟨rfl, rfl⟩

/-! ### The plain law -/
theorem cd_mul (u m : Int) (hu : 0 < u) : cd (u * m) u = m := by
  unfold cd
  rw [show u * m + u - 1 = (u - 1) + u * m by omega, Int.add_mul_ediv_left _ _ (by omega), Int.ediv_eq_zero_of_lt (by omega) (by omega)]
  omega

/-- Counting by u and then by m is counting by u * m. -/
theorem cd_nested (d u m : Int) (hu : 0 < u) (hm : 0 < m) : cd d (u * m) = cd (cd d u) m := by
  unfold cd
  have hum : 0 < u * m := Int.mul_pos hu hm
  rw [show (d + u - 1) / u + m - 1 = (d + u - 1) / u + (m - 1) by omega, ← Int.add_mul_ediv_left (d + u - 1) (m - 1) (by omega : u ≠ 0)]
  rw [Int.ediv_ediv_of_nonneg (by omega)]
  congr 1
  rw [Int.mul_sub]; omega
end Go.Proofs.Qxb6615731a
