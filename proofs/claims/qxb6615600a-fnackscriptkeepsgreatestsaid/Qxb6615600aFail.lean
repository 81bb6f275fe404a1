/-
  ZZack, errors.New, fail, ZZfail.
-/
import Derived.Test.Qxb6615600aHigh
namespace Go.Proofs.Qxb6615600a
open Go.ChangeShapes Go.WideShapes Go.ChangeAt Go.RowKit
open Go.MuLone

/-- ZZack on a healthy acks, below or at the position. -/
theorem zack_low (B r c : Nat) (next b e : Int) (k : Bool) (n nb ne : Int) (w : World) (h : Acks w B r c next b e .nilIface k) (hn : ¬ next < n) :
    Calls Try.prog 7 #[.pointer (some ⟨r, 0, none⟩), .int .u64 n, .int .u64 nb, .int .u64 ne] w fun x w' => x = .returned .nilIface ∧ Acks w' B r c next b e .nilIface k ∧ Below B w w' := by
  have H : Hid _ := h
  clear h
  go_enter Try.func7, Try.ntmps7
  go_wp2_with fail
  refine (ack_low B r c next b e k n nb ne w H.out (by omega)).mono ?_
  rintro x w' ⟨rfl, ha, hb⟩
  have HA : Hid _ := ha
  have HB : Hid _ := hb
  clear ha hb
  go_wp2_with fail
  go_ret
  exact ⟨rfl, HA.out, HB.out⟩

theorem zack_high (B r c : Nat) (next b e : Int) (k : Bool) (n nb ne : Int) (w : World) (h : Acks w B r c next b e .nilIface k) (hn : next < n) :
    Calls Try.prog 7 #[.pointer (some ⟨r, 0, none⟩), .int .u64 n, .int .u64 nb, .int .u64 ne] w fun x w' => x = .returned .nilIface ∧ Acks w' B r c n nb ne .nilIface true ∧ Below B w w' := by
  have H : Hid _ := h
  clear h
  go_enter Try.func7, Try.ntmps7
  go_wp2_with fail
  refine (ack_high B r c next b e k n nb ne w H.out hn).mono ?_
  rintro x w' ⟨rfl, ha, hb⟩
  have HA : Hid _ := ha
  have HB : Hid _ := hb
  clear ha hb
  go_wp2_with fail
  go_ret
  exact ⟨rfl, HA.out, HB.out⟩

theorem zack_bad (B r c : Nat) (next b e : Int) (k : Bool) (t : TypeId) (v : Value) (n nb ne : Int) (w : World) (h : Acks w B r c next b e (.iface t v) k) :
    Calls Try.prog 7 #[.pointer (some ⟨r, 0, none⟩), .int .u64 n, .int .u64 nb, .int .u64 ne] w fun x w' => x = .returned (.iface t v) ∧ Acks w' B r c next b e (.iface t v) k ∧ Below B w w' := by
  have H : Hid _ := h
  clear h
  go_enter Try.func7, Try.ntmps7
  go_wp2_with fail
  refine (ack_bad B r c next b e k t v n nb ne w H.out).mono ?_
  rintro x w' ⟨rfl, ha, hb⟩
  have HA : Hid _ := ha
  have HB : Hid _ := hb
  clear ha hb
  go_wp2_with fail
  go_ret
  exact ⟨rfl, HA.out, HB.out⟩

theorem errnew_any (s : ByteArray) (w : World) : Calls Try.prog 14 #[.string s] w fun x w' => x = .returned (.iface 54 (.pointer (some ⟨w.heap.size, 0, none⟩))) ∧ w' = w.alloc (.cells #[.string s] 56) := by
  go_enter Try.func14, Try.ntmps14
  go_wp2
  go_ret
  exact ⟨rfl, rfl⟩

/-- The error laid into the record. -/
theorem acks_err {w : World} {B r c : Nat} {next b e : Int} {err err' : Value} {k : Bool} (h : Acks w B r c next b e err k) :
    Acks (((w.setCell ⟨r, 5, none⟩ (.int .i32 1)).setCell ⟨r, 10, none⟩ err').setCell ⟨r, 5, none⟩ (.int .i32 0)) B r c next b e err' k ∧ Below B w (((w.setCell ⟨r, 5, none⟩ (.int .i32 1)).setCell ⟨r, 10, none⟩ err').setCell ⟨r, 5, none⟩ (.int .i32 0)) := by
  obtain ⟨⟨c1, c2, n0, b0, e0, hr⟩, ⟨s, hc⟩, hbr, hbc⟩ := h
  have hne : c ≠ r := by intro e; subst e; rw [hc] at hr; cases hr
  refine ⟨⟨⟨c1, c2, n0, b0, e0, ?_⟩, ⟨s, ?_⟩, hbr, hbc⟩, (((Below.refl _ _).setCell (p := ⟨r, 5, none⟩) hbr _).setCell (p := ⟨r, 10, none⟩) hbr _).setCell (p := ⟨r, 5, none⟩) hbr _⟩
  · have h1 := heap_setCell_same _ r 5 _ 50 (.int .i32 1) hr
    have h2 := heap_setCell_same _ r 10 _ 50 err' h1
    have h3 := heap_setCell_same _ r 5 _ 50 (.int .i32 0) h2
    exact h3
  · rw [Deep.blk_setCell_other _ _ _ _ hne, Deep.blk_setCell_other _ _ _ _ hne, Deep.blk_setCell_other _ _ _ _ hne]
    exact hc

theorem fail_any (B r c : Nat) (next b e : Int) (err : Value) (k : Bool) (t : TypeId) (p : Addr) (w : World) (h : Acks w B r c next b e err k) :
    Calls Try.prog 13 #[.pointer (some ⟨r, 0, none⟩), .iface t (.pointer (some p))] w fun x w' => x = .returned (.tuple #[]) ∧ Acks w' B r c next b e (.iface t (.pointer (some p))) k ∧ Below B w w' := by
  obtain ⟨c2, c5, c7, c8, c9, c10⟩ := h.cells
  have f5 := h.frozen 5
  have f10 := h.frozen 10
  have HL : Hid _ := acks_err (err' := .iface t (.pointer (some p))) h
  clear h
  go_enter Try.func13, Try.ntmps13
  go_wp2_with fail
  refine (lock_free Try.muLib ⟨r, 5, none⟩ w c5 f5).mono ?_
  rintro x w' ⟨rfl, rfl⟩
  go_wp2_with fail
  refine (unlock_held Try.muLib ⟨r, 5, none⟩ _ ?_ ?_).mono ?_
  · exact (World.cell?_setCell_other _ ⟨r, 10, none⟩ ⟨r, 5, none⟩ _ (by simp)).trans (World.cell?_setCell_same w ⟨r, 5, none⟩ (.int .i32 1) c5)
  · simpa using f5
  rintro x w' ⟨rfl, rfl⟩
  go_wp2_with fail
  go_end0
  exact ⟨rfl, HL.out⟩

theorem zfail_any (B r c : Nat) (next b e : Int) (err : Value) (k : Bool) (w : World) (h : Acks w B r c next b e err k) :
    Calls Try.prog 11 #[.pointer (some ⟨r, 0, none⟩)] w fun x w' => x = .returned (.tuple #[]) ∧ ∃ p, Acks w' B r c next b e (.iface 54 (.pointer (some p))) k ∧ Below B w w' := by
  have H : Hid _ := h
  have hbr := h.br
  obtain ⟨hlt, hcl⟩ := h.lt
  clear h
  go_enter Try.func11, Try.ntmps11
  go_wp2_with fail
  refine (errnew_any _ w).mono ?_
  rintro x w1 ⟨rfl, rfl⟩
  go_wp2_with fail
  refine (fail_any B r c next b e err k 54 ⟨w.heap.size, 0, none⟩ _ (H.out.of (Deep.blk_alloc_lt _ _ _ hlt) (Deep.blk_alloc_lt _ _ _ hcl))).mono ?_
  rintro x w2 ⟨rfl, ha, hb⟩
  have HA : Hid _ := ha
  have HB : Hid _ := ((Below.refl B w).alloc (by omega) _).trans hb
  clear ha hb
  go_wp2_with fail
  go_end0
  exact ⟨rfl, _, HA.out, HB.out⟩
end Go.Proofs.Qxb6615600a
