/-
  note, write, ZZrecordWrite.
-/
import Derived.Test.Qxb6615561aNew
import Derived.Deep.RegionLaw
import Derived.Deep.DrawnRows
namespace Go.Proofs.Qxb6615561a
open Go.ChangeShapes Go.WideShapes Go.ChangeAt Go.RowKit

/-- A record that the call made, its accesses a row of the call's own. -/
structure Log (w : World) (B r : Nat) (st en : Int) (co : Bool) (n : Nat) (xs : List Value) (v : Value) : Prop where
  isRec : recIs w r st en co v
  own : w.ownsRow B 92 4 v n xs
  far : v.ownBlock ≠ some r
  base : B ≤ r

attribute [local go_sem ↓] Go.wp_at_zero Go.wp_at_succ

theorem ownBlock_lt {w : World} {B e size n : Nat} {xs : List Value} {v : Value} (h : w.ownsRow B e size v n xs) {g : Nat} (hg : v.ownBlock = some g) : B ≤ g ∧ g < w.heap.size := by
  rcases h.2 with ⟨rfl, _⟩ | ⟨g', cap, cur, rfl, hb, hc, _⟩
  · cases hg
  · simp only [Value.ownBlock, Option.some.injEq] at hg
    subst hg
    refine ⟨hb, ?_⟩
    rcases Nat.lt_or_ge g' w.heap.size with hlt | hge
    · exact hlt
    · rw [Array.getElem?_eq_none hge] at hc; cases hc

theorem ownsRow_of {w w' : World} {B e size n : Nat} {xs : List Value} {v : Value} (h : w.ownsRow B e size v n xs) (hb : ∀ g, v.ownBlock = some g → w'.heap[g]? = w.heap[g]?) : w'.ownsRow B e size v n xs := by
  refine ⟨h.1, ?_⟩
  rcases h.2 with h0 | ⟨g', cap, cur, rfl, hbg, hc, r⟩
  · exact .inl h0
  · exact .inr ⟨g', cap, cur, rfl, hbg, (hb g' rfl).trans hc, r⟩

set_option maxRecDepth 100000 in
set_option maxHeartbeats 4000000 in
theorem note_any (B r : Nat) (st en : Int) (co : Bool) (n : Nat) (xs : List Value) (v : Value) (yv yk : Int) (yw yn : Bool) (w : World) (h : Log w B r st en co n xs v) (hn : n ≤ 1048576) :
    Calls Try.prog 43 #[.pointer (some ⟨r, 0, none⟩), .agg #[.int .i64 yv, .int .i32 yk, .bool yw, .bool yn]] w fun e w' => e = .returned (.tuple #[]) ∧
      ∃ v', Log w' B r st en co (n + 1) (xs ++ [.int .i64 yv, .int .i32 yk, .bool yw, .bool yn]) v' ∧ Below B w w' := by
  obtain ⟨i0, hi0, hz0, hz1, hz2⟩ := info_parts Try.info92
  obtain ⟨hrec, hown, hfar, hbase⟩ := h
  have hrl := hrec.lt
  obtain ⟨_, _, _, rc, _, rf⟩ := hrec.cell
  have HC : Hid (recIs w r st en co v) := hrec
  clear hrec
  have aq : v.ownBlock ≠ some w.heap.size := fun e => by have := ownBlock_lt hown e; omega
  have HO : Hid (w.ownsRow B 92 4 v n xs) := hown
  clear hown
  go_enter Try.func43, Try.ntmps43
  go_wp2
  have HO1 : Hid ((w.alloc (.cells #[.int .i64 yv, .int .i32 yk, .bool yw, .bool yn] 92)).ownsRow B 92 4 v n xs) := HO.out.alloc _
  have HC1 : Hid (recIs (w.alloc (.cells #[.int .i64 yv, .int .i32 yk, .bool yw, .bool yn] 92)) r st en co v) := recIs.of HC.out (Deep.blk_alloc_lt _ _ _ hrl)
  have HB1 : Hid (Below B w (w.alloc (.cells #[.int .i64 yv, .int .i32 yk, .bool yw, .bool yn] 92))) := (Below.refl _ _).alloc (by omega) _
  have hs1 : (w.alloc (.cells #[.int .i64 yv, .int .i32 yk, .bool yw, .bool yn] 92)).heap.size = w.heap.size + 1 := by simp
  have q0 : (w.alloc (.cells #[.int .i64 yv, .int .i32 yk, .bool yw, .bool yn] 92)).cell? ⟨w.heap.size, 0, none⟩ = some (.int .i64 yv) := by simp
  have q1 : (w.alloc (.cells #[.int .i64 yv, .int .i32 yk, .bool yw, .bool yn] 92)).cell? ⟨w.heap.size, 1, none⟩ = some (.int .i32 yk) := by simp
  have q2 : (w.alloc (.cells #[.int .i64 yv, .int .i32 yk, .bool yw, .bool yn] 92)).cell? ⟨w.heap.size, 2, none⟩ = some (.bool yw) := by simp
  have q3 : (w.alloc (.cells #[.int .i64 yv, .int .i32 yk, .bool yw, .bool yn] 92)).cell? ⟨w.heap.size, 3, none⟩ = some (.bool yn) := by simp
  clear rc rf
  generalize w.alloc (.cells #[.int .i64 yv, .int .i32 yk, .bool yw, .bool yn] 92) = W1 at *
  obtain ⟨q, hq⟩ : ∃ q, q = w.heap.size := ⟨_, rfl⟩
  rw [← hq] at q0 q1 q2 q3 aq hs1 hrl
  rw [← hq]
  clear hq HC HO
  obtain ⟨_, _, _, rc, _, rf⟩ := HC1.out.cell
  have hs2 : q < W1.heap.size := by omega
  have hs3 : r < W1.heap.size := by omega
  clear hs1
  go_region_law ((refine step_append_lies _ (by rfl) _ _ _ (by rfl) B 92 i0 _ 4 16 Try.under88 hi0 hz0 hz1 hz2 rfl (by omega) v n xs (by rfl) ((HO1.out.alloc _).drew) ⟨W1.heap.size, 0, none⟩ 1 1 [.int .i64 yv, .int .i32 yk, .bool yw, .bool yn] (by rfl) (by rfl) (World.news_of_block (cs := #[.int .i64 yv, .int .i32 yk, .bool yw, .bool yn]) (t := 92) (fr := (0, 0)) (heap_alloc_new W1 _)) (by simp [Value.oneCell']) (by omega) (by unfold maxLen; omega) (by omega) (by simp; omega) (W1.heap.size + 1) (by simp) ?_; intro gg cap w1 hown1 hgrow hat hlt; have HC2 : Hid (recIs w1 r st en co v) := recIs.of HC1.out ((hgrow.block r (by simp; omega) (Ne.symm hfar)).trans (Deep.blk_alloc_lt W1 _ r hs3)); obtain ⟨_, _, _, rc1, _, rf1⟩ := HC2.out.cell))
  all_goals
    have hne : gg ≠ r := by
      rcases hat with h | h
      · intro e; exact hfar (by rw [h, e])
      · omega
    have HL : Hid (Log (w1.setCell ⟨r, 3, none⟩ (.slice (some ⟨gg, 0, none⟩) (n + 1) cap)) B r st en co (n + 1) (xs ++ [.int .i64 yv, .int .i32 yk, .bool yw, .bool yn]) (.slice (some ⟨gg, 0, none⟩) (n + 1) cap)) := by
      refine ⟨heap_setCell_same w1 r 3 _ 90 _ HC2.out, ownsRow_of hown1 fun g hg => ?_, fun e => hne (by simpa [Value.ownBlock] using e), hbase⟩
      refine Deep.blk_setCell_other _ _ _ _ ?_
      simp only [Value.ownBlock, Option.some.injEq] at hg
      subst hg; exact hne
    have HBL : Hid (Below B w (w1.setCell ⟨r, 3, none⟩ (.slice (some ⟨gg, 0, none⟩) (n + 1) cap))) := by
      refine Below.setCell ?_ hbase _
      refine Below.grown (HB1.out.alloc (by omega) _).drew hgrow (by simp; omega) fun k hk => ?_
      exact (ownBlock_lt HO1.out hk).1
    go_end0
    exact ⟨rfl, _, HL.out, HBL.out⟩

/-- What a call of write lays behind. -/
def Wc.cells (c : Wc) : List Value := [.int .i64 c.v, .int .i32 c.key, .bool true, .bool c.none]

theorem write_any (B r : Nat) (st en : Int) (co : Bool) (n : Nat) (xs : List Value) (v : Value) (key x : Int) (nn : Bool) (w : World) (h : Log w B r st en co n xs v) (hn : n ≤ 1048576) (h1 : -2147483648 ≤ key) (h2 : key ≤ 2147483647) :
    Calls Try.prog 41 #[.pointer (some ⟨r, 0, none⟩), .int .i64 key, .int .i64 x, .bool nn] w fun e w' => e = .returned (.tuple #[]) ∧
      ∃ v', Log w' B r st en co (n + 1) (xs ++ [.int .i64 x, .int .i32 key, .bool true, .bool nn]) v' ∧ Below B w w' := by
  have H : Hid _ := h
  clear h
  go_enter Try.func41, Try.ntmps41
  go_wp2_with fail
  refine (note_any B r st en co n xs v x key true nn w H.out hn).mono ?_
  rintro e w' ⟨rfl, v', hl, hb⟩
  have HL : Hid _ := hl
  have HB : Hid _ := hb
  clear hl hb
  go_wp2_with fail
  go_end0
  exact ⟨rfl, v', HL.out, HB.out⟩

theorem rwrite_any (B r : Nat) (st en : Int) (co : Bool) (n : Nat) (xs : List Value) (v : Value) (key x : Int) (nn : Bool) (w : World) (h : Log w B r st en co n xs v) (hn : n ≤ 1048576) (h1 : -2147483648 ≤ key) (h2 : key ≤ 2147483647) :
    Calls Try.prog 26 #[.pointer (some ⟨r, 0, none⟩), .int .i64 key, .int .i64 x, .bool nn] w fun e w' => e = .returned (.tuple #[]) ∧
      ∃ v', Log w' B r st en co (n + 1) (xs ++ [.int .i64 x, .int .i32 key, .bool true, .bool nn]) v' ∧ Below B w w' := by
  have H : Hid _ := h
  clear h
  go_enter Try.func26, Try.ntmps26
  go_wp2_with fail
  refine (write_any B r st en co n xs v key x nn w H.out hn h1 h2).mono ?_
  rintro e w' ⟨rfl, v', hl, hb⟩
  have HL : Hid _ := hl
  have HB : Hid _ := hb
  clear hl hb
  go_wp2_with fail
  go_end0
  exact ⟨rfl, v', HL.out, HB.out⟩
end Go.Proofs.Qxb6615561a
