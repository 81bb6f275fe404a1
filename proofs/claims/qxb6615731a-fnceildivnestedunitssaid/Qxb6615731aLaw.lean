/-
  THE WALK OF FnCeilDivNestedUnits.
-/
import Derived.Test.Qxb6615731aWalks
namespace Go.Proofs.Qxb6615731a
open Go.ChangeShapes Go.WideShapes Go.ChangeAt Go.RowKit

theorem law_d (d u m : Int) (w : World) (h : d < 0) :
    Calls Try.prog 3 #[.int .i64 d, .int .i64 u, .int .i64 m] w fun e w' => e = .returned (.bool true) ∧ w' = w := by
  go_enter Try.func3, Try.ntmps3
  go_wp2
  go_ret
  exact ⟨rfl, rfl⟩

theorem law_u (d u m : Int) (w : World) (h : 0 ≤ d) (h1 : u ≤ 0) :
    Calls Try.prog 3 #[.int .i64 d, .int .i64 u, .int .i64 m] w fun e w' => e = .returned (.bool true) ∧ w' = w := by
  go_enter Try.func3, Try.ntmps3
  go_wp2
  go_ret
  exact ⟨rfl, rfl⟩

theorem law_m (d u m : Int) (w : World) (h : 0 ≤ d) (h1 : 0 < u) (h2 : m ≤ 0) :
    Calls Try.prog 3 #[.int .i64 d, .int .i64 u, .int .i64 m] w fun e w' => e = .returned (.bool true) ∧ w' = w := by
  go_enter Try.func3, Try.ntmps3
  go_wp2
  go_ret
  exact ⟨rfl, rfl⟩

theorem law_um (d u m : Int) (w : World) (h : 0 ≤ d) (h1 : 0 < u) (h2 : 0 < m) (h3 : 9223372036854775807 / m < u) :
    Calls Try.prog 3 #[.int .i64 d, .int .i64 u, .int .i64 m] w fun e w' => e = .returned (.bool true) ∧ w' = w := by
  have hm : (m == 0) = false := by simp; omega
  go_enter Try.func3, Try.ntmps3
  go_wp2
  go_ret
  exact ⟨rfl, rfl⟩

theorem law_sum (d u m : Int) (w : World) (h : 0 ≤ d) (h1 : 0 < u) (h2 : 0 < m) (h3 : u ≤ 9223372036854775807 / m) (h5 : u * m ≤ 9223372036854775807) (h5u : u ≤ u * m) (h6 : 9223372036854775807 - u + 1 < u * m) :
    Calls Try.prog 3 #[.int .i64 d, .int .i64 u, .int .i64 m] w fun e w' => e = .returned (.bool true) ∧ w' = w := by
  have hm : (m == 0) = false := by simp; omega
  have h4 : 0 < u * m := Int.mul_pos h1 h2
  go_enter Try.func3, Try.ntmps3
  go_wp2
  go_ret
  exact ⟨rfl, rfl⟩

theorem law_dd (d u m : Int) (w : World) (h : 0 ≤ d) (h1 : 0 < u) (h2 : 0 < m) (h3 : u ≤ 9223372036854775807 / m) (h5 : u * m ≤ 9223372036854775807) (h5u : u ≤ u * m) (h6 : u * m ≤ 9223372036854775807 - u + 1) (h7 : 9223372036854775807 - u * m + 1 < d) :
    Calls Try.prog 3 #[.int .i64 d, .int .i64 u, .int .i64 m] w fun e w' => e = .returned (.bool true) ∧ w' = w := by
  have hm : (m == 0) = false := by simp; omega
  have h4 : 0 < u * m := Int.mul_pos h1 h2
  go_enter Try.func3, Try.ntmps3
  go_wp2
  go_ret
  exact ⟨rfl, rfl⟩

theorem law_main (d u m : Int) (w : World) (h : 0 ≤ d) (h1 : 0 < u) (h2 : 0 < m) (h3 : u ≤ 9223372036854775807 / m) (h5 : u * m ≤ 9223372036854775807) (h5u : u ≤ u * m) (h5m : m ≤ u * m) (h6 : u * m ≤ 9223372036854775807 - u + 1) (h7 : d ≤ 9223372036854775807 - u * m + 1) :
    Calls Try.prog 3 #[.int .i64 d, .int .i64 u, .int .i64 m] w fun e w' => e = .returned (.bool true) ∧ w' = w := by
  have hm : (m == 0) = false := by simp; omega
  have h4 : 0 < u * m := Int.mul_pos h1 h2
  have HE : Hid (cd d (u * m) = cd (cd d u) m) := cd_nested d u m h1 h2
  have HM : Hid (cd (u * m) u = m) := cd_mul u m h1
  have hc : cd d u ≤ d := by
    have h9 : (d + u - 1) / u < d + 1 := by
      refine Int.ediv_lt_of_lt_mul h1 ?_
      have := Int.mul_nonneg h (by omega : (0 : Int) ≤ u - 1)
      rw [Int.mul_sub] at this
      rw [Int.add_mul]
      omega
    unfold cd
    omega
  have hc0 := cd_nonneg d u h h1
  go_enter Try.func3, Try.ntmps3
  go_wp2_with fail
  refine (ceil_any d (u * m) w h h4 (by omega)).mono ?_
  rintro e w1 ⟨rfl, rfl⟩
  go_wp2_with fail
  refine (ceil_any d u w1 h h1 (by omega)).mono ?_
  rintro e w2 ⟨rfl, rfl⟩
  go_wp2_with fail
  refine (ceil_any (cd d u) m w2 hc0 h2 (by omega)).mono ?_
  rintro e w3 ⟨rfl, rfl⟩
  go_wp2_with fail
  refine (ceil_any (u * m) u w3 (by omega) h1 (by omega)).mono ?_
  rintro e w4 ⟨rfl, rfl⟩
  rw [HE.out, HM.out]
  go_wp2_with fail
  go_ret
  exact ⟨rfl, rfl⟩
end Go.Proofs.Qxb6615731a
