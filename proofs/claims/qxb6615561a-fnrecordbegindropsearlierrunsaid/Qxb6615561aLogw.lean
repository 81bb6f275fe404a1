/-
  sameAccess, logIsWrites.
-/
import Derived.Test.Qxb6615561aOut
namespace Go.Proofs.Qxb6615561a
open Go.ChangeShapes Go.WideShapes Go.ChangeAt Go.RowKit

theorem same_any (v k : Int) (x y : Bool) (w : World) : Calls Try.prog 33 #[.agg #[.int .i64 v, .int .i32 k, .bool x, .bool y], .int .i64 v, .int .i32 k, .bool x, .bool y] w fun e w' =>
    e = .returned (.bool true) ∧ w' = w.alloc (.cells #[.int .i64 v, .int .i32 k, .bool x, .bool y] 66) := by
  go_enter Try.func33, Try.ntmps33
  go_wp2
  go_ret
  exact ⟨rfl, rfl⟩

/-- The access that a call of write leaves. -/
def Wc.acc (c : Wc) : Acc := ⟨c.v, c.key, true, c.none⟩

set_option maxRecDepth 100000 in
set_option maxHeartbeats 4000000 in
theorem logw_any (a a' : Option Addr) (m n c c' f : Nat) (L : List Acc) (l : List Wc) (w : World) (hm : m ≤ 1048576) (hfn : f + n ≤ m) (hL : HasA w a m L) (hl : HasC w a' n l) (hok : okKeys l = true)
    (heq : ∀ k, k < n → L.getD (f + k) acc0 = (l.getD k wc0).acc) :
    Calls Try.prog 28 #[.slice a m c, .int .i64 f, .slice a' n c'] w fun e w' => e = .returned (.bool true) ∧ Below w.heap.size w w' := by
  have HL : Hid (HasA w a m L) := hL
  have HC : Hid (HasC w a' n l) := hl
  have HQ : Hid (∀ k, k < n → L.getD (f + k) acc0 = (l.getD k wc0).acc) := heq
  have HK : Hid (okKeys l = true) := hok
  clear hL hl hok heq
  go_enter Try.func28, Try.ntmps28
  go_wp2
  go_loopw [7] (fun i wr => ∃ k : Nat, k ≤ n ∧ i = .int .i64 k ∧ Below w.heap.size w wr) (fun i _ => n - (intOf i).toNat)
  case atStart => exact ⟨0, Nat.zero_le _, rfl, Below.refl _ _⟩
  case round =>
    obtain ⟨k, hk, rfl, hbel⟩ := hrel
    have HB : Hid _ := hbel
    by_cases hlt : k < n
    · obtain ⟨b, off, rfl, hb, hcell⟩ := HC.out.at' (by omega)
      obtain ⟨c1, c2, c3⟩ := wcAt_of (hcell k hlt) (hbel.block b hb)
      obtain ⟨lb, lo, rfl, hlb, hlcell⟩ := HL.out.at' (by omega)
      obtain ⟨d1, d2, d3, d4⟩ := accAt_of (hlcell (f + k) (by omega)) (hbel.block lb hlb)
      rw [HQ.out k hlt] at d1 d2 d3 d4
      have hkey : okKey (l.getD k wc0) = true := by
        have h1 := HK.out
        unfold okKeys at h1
        rw [List.all_eq_true] at h1
        have hkl : k < l.length := by have := HC.out.len; omega
        have := h1 l[k] (List.getElem_mem _)
        simpa [hkl] using this
      obtain ⟨y, hy⟩ : ∃ y, y = l.getD k wc0 := ⟨_, rfl⟩
      rw [← hy] at c1 c2 c3 d1 d2 d3 d4 hkey
      obtain ⟨yk, yv, yn⟩ := y
      have hk2 : -2147483648 ≤ yk ∧ yk ≤ 2147483647 := by simpa [okKey] using hkey
      obtain ⟨hk3, hk4⟩ := hk2
      clear hy hcell hlcell hbel hkey
      simp only [Wc.acc] at c1 c2 c3 d1 d2 d3 d4
      have hk0 : (0 : Int) ≤ (k : Int) := by omega
      have hk1 : (k : Int) < (n : Int) := by omega
      have hf0 : (0 : Int) ≤ (f : Int) + (k : Int) := by omega
      have hf1 : (f : Int) + (k : Int) < (m : Int) := by omega
      have ef : ((f : Int) + (k : Int)).toNat = f + k := by omega
      have ew : IntKind.i64.wrap ((f : Int) + (k : Int)) = (f : Int) + (k : Int) := by rw [IntKind.wrap_i64]; omega
      have ek : IntKind.i32.wrap yk = yk := by rw [IntKind.wrap_i32]; omega
      go_wp2
      go_region_held3 (fun w' => w'.cell? ⟨lb, lo + (f + k) * 4, none⟩ = some (.int .i64 yv) ∧ w'.cell? ⟨lb, lo + (f + k) * 4 + 1, none⟩ = some (.int .i32 yk) ∧ w'.cell? ⟨lb, lo + (f + k) * 4 + 2, none⟩ = some (.bool true) ∧ w'.cell? ⟨lb, lo + (f + k) * 4 + 3, none⟩ = some (.bool yn) ∧ w'.cell? ⟨b, off + k * 3, none⟩ = some (.int .i64 yk) ∧ w'.cell? ⟨b, off + k * 3 + 1, none⟩ = some (.int .i64 yv) ∧ w'.cell? ⟨b, off + k * 3 + 2, none⟩ = some (.bool yn)) (go_keep) ((go_at_call 33; refine (same_any _ _ _ _ _).mono ?_; rintro e w' ⟨rfl, rfl⟩))
      have HB1 : Hid (Below w.heap.size w (wr.alloc (.cells #[.int .i64 yv, .int .i32 yk, .bool true, .bool yn] 66)).drew) := (HB.out.alloc HB.out.size _).drew
      generalize (wr.alloc (.cells #[.int .i64 yv, .int .i32 yk, .bool true, .bool yn] 66)).drew = W1 at *
      clear ef ew ek c1 c2 c3 d1 d2 d3 d4
      go_wp2
      go_roundw
      case rel => exact ⟨k + 1, by omega, by go_num, HB1.out⟩
      case measure => simp [intOf]; omega
    · obtain rfl : k = n := by omega
      clear hbel
      go_wp2
      go_ret
      exact ⟨rfl, HB.out⟩
end Go.Proofs.Qxb6615561a
