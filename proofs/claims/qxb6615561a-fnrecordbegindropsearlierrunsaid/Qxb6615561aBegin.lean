/-
  begin, ZZrecordBegin; the size look of the second law.
-/
import Derived.Test.Qxb6615561aMake
namespace Go.Proofs.Qxb6615561a
open Go.ChangeShapes Go.WideShapes Go.ChangeAt Go.RowKit

theorem Try.under88e : Try.prog.underlying 88 = some (.slice (Try.prog.elem 88)) := by kernel_rfl
theorem Try.sizeOf92 (w : World) : (sizeOf (Try.prog.elem 88)).run Try.prog w = .ok 4 w := by kernel_rfl

theorem run_cut0 (a : Option Addr) (n c : Nat) (w : World) :
    (Instr.slice 88 (.slice a n c) none (some (.int .i64 0)) none).run Try.prog w = .ok (.slice a 0 c) w := by
  rw [run_slice_h (P := Try.prog) w 88 a n c Try.under88e .i64 0 (by omega) (by omega)]
  rw [Try.sizeOf92]
  cases a <;> simp [Result.andThen, sliced, Addr.add]

/-- The same slice, cut to nothing. -/
def cut0 : Value → Value
  | .slice a _ c => .slice a 0 c
  | v => v

theorem own_cut0 {w : World} {B e size n : Nat} {xs : List Value} {v : Value} (h : w.ownsRow B e size v n xs) : w.ownsRow B e size (cut0 v) 0 [] ∧ (cut0 v).ownBlock = v.ownBlock := by
  rcases h.2 with ⟨rfl, rfl⟩ | ⟨g, cap, cur, rfl, hb, hc, h1, h2, h3, h4⟩
  · exact ⟨⟨by simp, .inl ⟨rfl, rfl⟩⟩, rfl⟩
  · exact ⟨⟨by simp, .inr ⟨g, cap, cur, rfl, hb, hc, Nat.zero_le _, h2, h3, by simp⟩⟩, rfl⟩

theorem own_slice {w : World} {B e size n : Nat} {xs : List Value} {v : Value} (h : w.ownsRow B e size v n xs) : ∃ a m c, v = .slice a m c := by
  rcases h.2 with ⟨rfl, rfl⟩ | ⟨g, cap, cur, rfl, _⟩
  · exact ⟨_, _, _, rfl⟩
  · exact ⟨_, _, _, rfl⟩

theorem begin_core (B r : Nat) (st en s : Int) (co : Bool) (n : Nat) (xs : List Value) (v : Value) (w : World) (h : Log w B r st en co n xs v) :
    Calls Try.prog 40 #[.pointer (some ⟨r, 0, none⟩), .int .i64 s] w fun e w' => e = .returned (.tuple #[]) ∧ Log w' B r s en co 0 [] (cut0 v) ∧ Below B w w' := by
  obtain ⟨a, m, c, rfl⟩ := own_slice h.own
  have HL : Hid _ := h
  obtain ⟨c0, c1, c2, c3, f0, f3⟩ := h.isRec.cell
  have hcut := run_cut0 a m c
  clear h
  go_enter Try.func40, Try.ntmps40
  go_wp2
  go_end0
  obtain ⟨hrec, hown, hfar, hbase⟩ := HL.out
  refine ⟨rfl, ⟨?_, ?_, ?_, hbase⟩, ((Below.refl _ _).setCell (p := ⟨r, 0, none⟩) hbase _).setCell (p := ⟨r, 3, none⟩) hbase _⟩
  · have h1 := heap_setCell_same w r 0 _ 90 (.int .i64 s) hrec
    have h2 := heap_setCell_same _ r 3 _ 90 (.slice a 0 c) h1
    exact h2
  · refine ownsRow_of (own_cut0 hown).1 fun g hg => ?_
    have hne : g ≠ r := fun e => hfar (by rw [← (own_cut0 hown).2, hg, e])
    rw [Deep.blk_setCell_other _ _ _ _ hne, Deep.blk_setCell_other _ _ _ _ hne]
  · rw [(own_cut0 hown).2]; exact hfar

theorem begin_any (B r : Nat) (st en s : Int) (co : Bool) (n : Nat) (xs : List Value) (v : Value) (w : World) (h : Log w B r st en co n xs v) :
    Calls Try.prog 25 #[.pointer (some ⟨r, 0, none⟩), .int .i64 s] w fun e w' => e = .returned (.tuple #[]) ∧ Log w' B r s en co 0 [] (cut0 v) ∧ Below B w w' := by
  have H : Hid _ := h
  clear h
  go_enter Try.func25, Try.ntmps25
  go_wp2_with fail
  refine (begin_core B r st en s co n xs v w H.out).mono ?_
  rintro e w' ⟨rfl, hl, hb⟩
  have HL : Hid _ := hl
  have HB : Hid _ := hb
  clear hl hb
  go_wp2_with fail
  go_end0
  exact ⟨rfl, HL.out, HB.out⟩

theorem bytesG (x y : Int) (z : Bool) (s1 s2 : Int) (a a1 a2 : Option Addr) (n c n1 c1 n2 c2 : Nat) (w : World) (hm : n + n1 + n2 ≤ 1048576) :
    Calls Try.prog 21 #[.int .i64 x, .int .i64 y, .bool z, .slice a n c, .int .i64 s1, .slice a1 n1 c1, .int .i64 s2, .slice a2 n2 c2] w fun e w' => e = .returned (.bool true) ∧ w' = w := by
  have h1 : n ≤ 1048576 := by omega
  have h2 : n1 ≤ 1048576 := by omega
  have h3 : n2 ≤ 1048576 := by omega
  have h4 : n + n1 ≤ 1048576 := by omega
  go_enter Try.func21, Try.ntmps21
  go_wp2
  go_ret
  exact ⟨rfl, rfl⟩

theorem bytesG_no (x y : Int) (z : Bool) (s1 s2 : Int) (a a1 a2 : Option Addr) (n c n1 c1 n2 c2 : Nat) (w : World) (hm : 1048576 < n + n1 + n2) :
    Calls Try.prog 21 #[.int .i64 x, .int .i64 y, .bool z, .slice a n c, .int .i64 s1, .slice a1 n1 c1, .int .i64 s2, .slice a2 n2 c2] w fun e w' => e = .returned (.bool false) ∧ w' = w := by
  by_cases h1 : n ≤ 1048576
  · by_cases h2 : n1 ≤ 1048576
    · by_cases h4 : n + n1 ≤ 1048576
      · by_cases h3 : n2 ≤ 1048576
        · go_enter Try.func21, Try.ntmps21
          go_wp2
          go_ret
          exact ⟨rfl, rfl⟩
        · go_enter Try.func21, Try.ntmps21
          go_wp2
          go_ret
          exact ⟨rfl, rfl⟩
      · go_enter Try.func21, Try.ntmps21
        go_wp2
        go_ret
        exact ⟨rfl, rfl⟩
    · go_enter Try.func21, Try.ntmps21
      go_wp2
      go_ret
      exact ⟨rfl, rfl⟩
  · go_enter Try.func21, Try.ntmps21
    go_wp2
    go_ret
    exact ⟨rfl, rfl⟩
end Go.Proofs.Qxb6615561a
