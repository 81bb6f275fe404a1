/-
  ZZrecordAccesses, the getters.
-/
import Derived.Test.Qxb6615561aNote
namespace Go.Proofs.Qxb6615561a
open Go.ChangeShapes Go.WideShapes Go.ChangeAt Go.RowKit

def flat : List Acc → List Value
  | [] => []
  | a :: r => a.cells ++ flat r

theorem flat_length (l : List Acc) : (flat l).length = l.length * 4 := by
  induction l with
  | nil => rfl
  | cons a r ih => simp [flat, Acc.cells, ih]; omega

theorem flat_append (a b : List Acc) : flat (a ++ b) = flat a ++ flat b := by
  induction a with
  | nil => rfl
  | cons x r ih => simp [flat, ih]

theorem flat_at (l : List Acc) : ∀ i, i < l.length → (flat l)[i * 4]? = some (.int .i64 (l.getD i acc0).value) ∧ (flat l)[i * 4 + 1]? = some (.int .i32 (l.getD i acc0).key) ∧
    (flat l)[i * 4 + 2]? = some (.bool (l.getD i acc0).write) ∧ (flat l)[i * 4 + 3]? = some (.bool (l.getD i acc0).none) := by
  induction l with
  | nil => intro i hi; simp at hi
  | cons a r ih =>
    intro i hi
    cases i with
    | zero => simp [flat, Acc.cells]
    | succ j =>
      have h := ih j (by simpa using hi)
      have e : ∀ q, (flat (a :: r))[(j + 1) * 4 + q]? = (flat r)[j * 4 + q]? := by
        intro q
        rw [flat, List.getElem?_append_right (by simp [Acc.cells]; omega)]
        congr 1
        simp [Acc.cells]; omega
      have e0 := e 0
      simp only [Nat.add_zero] at e0
      rw [e0, e 1, e 2, e 3]
      simpa using h

theorem accs_of_own {w : World} {B g n cap : Nat} {L : List Acc} (h : w.ownsRow B 92 4 (.slice (some ⟨g, 0, none⟩) n cap) n (flat L)) (i : Nat) (hi : i < n) : accAt w g (i * 4) (L.getD i acc0) := by
  have hl : L.length = n := by have := h.1; rw [flat_length] at this; omega
  obtain ⟨h0, h1, h2, h3⟩ := flat_at L i (by omega)
  refine ⟨?_, ?_, ?_, ?_⟩
  · rw [h.cellAt _ (by omega)]; exact h0
  · rw [h.cellAt _ (by omega)]; exact h1
  · rw [h.cellAt _ (by omega)]; exact h2
  · rw [h.cellAt _ (by omega)]; exact h3

theorem start_any (r : Nat) (st en : Int) (co : Bool) (v : Value) (w : World) (h : recIs w r st en co v) : Calls Try.prog 29 #[.pointer (some ⟨r, 0, none⟩)] w fun e w' => e = .returned (.int .i64 st) ∧ w' = w := by
  obtain ⟨c0, _⟩ := h.cell
  clear h
  go_enter Try.func29, Try.ntmps29
  go_wp2
  go_ret
  exact ⟨rfl, rfl⟩
theorem end_any (r : Nat) (st en : Int) (co : Bool) (v : Value) (w : World) (h : recIs w r st en co v) : Calls Try.prog 30 #[.pointer (some ⟨r, 0, none⟩)] w fun e w' => e = .returned (.int .i64 en) ∧ w' = w := by
  obtain ⟨_, c0, _⟩ := h.cell
  clear h
  go_enter Try.func30, Try.ntmps30
  go_wp2
  go_ret
  exact ⟨rfl, rfl⟩
theorem comm_any (r : Nat) (st en : Int) (co : Bool) (v : Value) (w : World) (h : recIs w r st en co v) : Calls Try.prog 31 #[.pointer (some ⟨r, 0, none⟩)] w fun e w' => e = .returned (.bool co) ∧ w' = w := by
  obtain ⟨_, _, c0, _⟩ := h.cell
  clear h
  go_enter Try.func31, Try.ntmps31
  go_wp2
  go_ret
  exact ⟨rfl, rfl⟩

theorem out_nil (r : Nat) (st en : Int) (co : Bool) (w : World) (h : recIs w r st en co (.slice none 0 0)) : Calls Try.prog 27 #[.pointer (some ⟨r, 0, none⟩)] w fun e w' => e = .returned (.slice none 0 0) ∧ w' = w := by
  have hnil := fun w => Lib.run_eql_slice_nil (P := Try.prog) w 88 92 none 0 0 0 0 Try.under88
  obtain ⟨_, _, _, c0, _⟩ := h.cell
  clear h
  go_enter Try.func27, Try.ntmps27
  go_wp2
  go_ret
  exact ⟨rfl, rfl⟩

set_option maxHeartbeats 4000000 in
theorem out_some (B r : Nat) (st en : Int) (co : Bool) (g n cap : Nat) (L : List Acc) (w : World) (hn : n ≤ 1048576) (h : Log w B r st en co n (flat L) (.slice (some ⟨g, 0, none⟩) n cap)) :
    Calls Try.prog 27 #[.pointer (some ⟨r, 0, none⟩)] w fun e w' => e = .returned (.slice (some ⟨w.heap.size, 0, none⟩) n n) ∧ Below w.heap.size w w' ∧ RowA w' w.heap.size 66 n n L := by
  have hnil := fun w => Lib.run_eql_slice_nil (P := Try.prog) w 88 92 (some ⟨g, 0, none⟩) n cap 0 0 Try.under88
  have hmk := run_made 53 66 Try.underlying53 Try.info66 n hn
  obtain ⟨hrec, hown, hfar, hbase⟩ := h
  have hrl := hrec.lt
  have hgl : g < w.heap.size := (ownBlock_lt hown rfl).2
  have HA : Hid (∀ i, i < n → accAt w g (i * 4) (L.getD i acc0)) := fun i hi => accs_of_own hown i hi
  obtain ⟨_, _, _, c0, _⟩ := hrec.cell
  have HC : Hid (recIs w r st en co (.slice (some ⟨g, 0, none⟩) n cap)) := hrec
  clear hrec hown hfar
  obtain ⟨G, hG⟩ : ∃ G, G = w.heap.size := ⟨_, rfl⟩
  go_enter Try.func27, Try.ntmps27
  go_wp2
  rw [← hG]
  have HG : Hid (G = w.heap.size) := hG
  clear hG hmk hnil
  go_loopw [4] (fun i wr => ∃ k : Nat, k ≤ n ∧ i = .int .i64 k ∧ Below w.heap.size w wr ∧ RowA wr G 66 n k L) (fun i _ => n - (intOf i).toNat)
  case atStart =>
    refine ⟨0, Nat.zero_le _, rfl, (Below.refl _ _).alloc (Nat.le_refl _) _, ⟨_, ?_, size_made n⟩, fun i hi => absurd hi (Nat.not_lt_zero _)⟩
    rw [HG.out]; exact Deep.blk_alloc_new _ _
  case round =>
    obtain ⟨k, hk, rfl, hbel, hrow⟩ := hrel
    have HB : Hid _ := hbel
    have HR : Hid _ := hrow
    obtain ⟨_, _, _, rc, _⟩ := (recIs.of HC.out (hbel.block r hrl)).cell
    by_cases hlt : k < n
    · obtain ⟨c1, c2, c3, c4⟩ := accAt_of (HA.out k hlt) (hbel.block g hgl)
      obtain ⟨y, hy⟩ : ∃ y, y = L.getD k acc0 := ⟨_, rfl⟩
      have HY : Hid (y = L.getD k acc0) := hy
      rw [← hy] at c1 c2 c3 c4
      obtain ⟨v0, v1, v2, v3, e0, e1, e2, e3, f0, f1, f2, f3⟩ := hrow.there k hlt
      have hGr := hrow.lt
      clear hy hbel hrow c0
      have hk0 : (0 : Int) ≤ (k : Int) := by omega
      have hk1 : (k : Int) < (n : Int) := by omega
      obtain ⟨yv, yk, yw, yn⟩ := y
      simp only at c1 c2 c3 c4
      go_wp2
      have HB1 : Hid (Below w.heap.size w ((set4 wr G (k * 4) ⟨yv, yk, yw, yn⟩).alloc (.cells #[.int .i64 yv, .int .i32 yk, .bool yw, .bool yn] 92))) := (set4_below HB.out (by rw [← HG.out]; exact Nat.le_refl _) _ _).alloc (by rw [set4_size]; exact HB.out.size) _
      have HR1 : Hid (RowA ((set4 wr G (k * 4) ⟨yv, yk, yw, yn⟩).alloc (.cells #[.int .i64 yv, .int .i32 yk, .bool yw, .bool yn] 92)) G 66 n (k + 1) L) := by
        rw [HY.out]; exact (HR.out.set4 hlt).of (Deep.blk_alloc_lt _ _ _ (by rw [set4_size]; exact hGr))
      exact ⟨⟨k + 1, by omega, by go_num, HB1.out, HR1.out⟩, by simp [intOf]; omega⟩
    · obtain rfl : k = n := by omega
      clear hbel hrow c0
      go_wp2
      go_ret
      rw [← HG.out]
      exact ⟨rfl, by rw [HG.out]; exact HB.out, HR.out⟩

theorem RowA.has {w : World} {g t n : Nat} {l : List Acc} (h : RowA w g t n n l) (hl : l.length = n) : HasA w (some ⟨g, 0, none⟩) n l :=
  ⟨hl, fun _ => ⟨g, 0, rfl, h.lt, fun i hi => by rw [Nat.zero_add]; exact h.acc i hi⟩⟩

/-- The accesses handed out. -/
theorem out_any (B r : Nat) (st en : Int) (co : Bool) (n : Nat) (L : List Acc) (v : Value) (w : World) (hn : n ≤ 1048576) (h : Log w B r st en co n (flat L) v) :
    Calls Try.prog 27 #[.pointer (some ⟨r, 0, none⟩)] w fun e w' => ∃ a, e = .returned (.slice a n n) ∧ Below w.heap.size w w' ∧ HasA w' a n L := by
  have hl : L.length = n := by have := h.own.1; rw [flat_length] at this; omega
  rcases h.own.2 with ⟨rfl, rfl⟩ | ⟨g, cap, cur, rfl, _⟩
  · refine (out_nil r st en co w h.isRec).mono ?_
    rintro e w' ⟨rfl, rfl⟩
    exact ⟨none, rfl, Below.refl _ _, hl, fun h => absurd rfl h⟩
  · refine (out_some B r st en co g n cap L w hn h).mono ?_
    rintro e w' ⟨rfl, hb, hr⟩
    exact ⟨_, rfl, hb, hr.has hl⟩
end Go.Proofs.Qxb6615561a
