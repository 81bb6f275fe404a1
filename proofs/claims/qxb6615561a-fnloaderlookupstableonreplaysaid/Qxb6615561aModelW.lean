/-
  lookUpModel: the walk.
-/
import Derived.Test.Qxb6615561aModel
import Derived.Deep.RegionWith
namespace Go.Proofs.Qxb6615561a
open Go.ChangeShapes Go.WideShapes Go.ChangeAt Go.RowKit

set_option maxRecDepth 100000 in
set_option maxHeartbeats 4000000 in
theorem model_any (a : Option Addr) (n c : Nat) (l : List Lc) (w : World) (hm : n ≤ 4096) (hz : HasL w a n l) :
    Calls Try.prog 9 #[.slice a n c] w fun e w' => ∃ ev ka kc, e = .returned (.tuple #[ev, .slice ka (tabOf l).length kc]) ∧ Below w.heap.size w w' := by
  have hmk := run_madeI n (by omega)
  have HZ : Hid (HasL w a n l) := hz
  have hlen := hz.len
  clear hz
  obtain ⟨g, hg⟩ : ∃ g, g = w.heap.size := ⟨_, rfl⟩
  have HG : Hid (g = w.heap.size) := hg
  go_enter Try.func9, Try.ntmps9
  go_wp2
  rw [← hg]
  clear hg hmk
  have HB0 : Hid (Below g w (w.alloc (.cells (madeI n) 21))) := (Below.refl _ _).alloc (by rw [HG.out]; exact Nat.le_refl _) _
  have HR0 : Hid (RowI (w.alloc (.cells (madeI n) 21)) g n 0 (fun _ => 0)) := by rw [HG.out]; exact RowI.made w n _
  generalize w.alloc (.cells (madeI n) 21) = W0 at *
  go_loopw [5, 6, 7, 8] (fun ks i _ _ wr => ∃ (k : Nat) (ka : Option Addr) (kc : Nat) (xs : List Value), k ≤ n ∧ i = .int .i64 k ∧ ks = .slice ka (tabOf (l.take k)).length kc ∧ wr.ownsRow g 21 1 ks (tabOf (l.take k)).length xs ∧ ks.ownBlock ≠ some g ∧ RowI wr g n 0 (fun _ => 0) ∧ Below g w wr) (fun _ i _ _ _ => n - (intOf i).toNat)
  case atStart =>
    refine ⟨0, none, 0, [], Nat.zero_le _, rfl, rfl, ⟨rfl, .inl ⟨rfl, rfl⟩⟩, by simp [Value.ownBlock], HR0.out, HB0.out⟩
  case round =>
    obtain ⟨k, ka, kc, xs, hk, rfl, rfl, hown, hne, hrow, hbel⟩ := hrel
    obtain ⟨V, rfl⟩ : ∃ V, V = wr := ⟨_, rfl⟩
    have HO : Hid (V.ownsRow g 21 1 (.slice ka (tabOf (l.take k)).length kc) (tabOf (l.take k)).length xs) := hown
    have HN : Hid ((Value.slice ka (tabOf (l.take k)).length kc).ownBlock ≠ some g) := hne
    have HR : Hid (RowI V g n 0 (fun _ => 0)) := hrow
    have HB : Hid (Below g w V) := hbel
    clear hown hne hrow hbel HB0 HR0
    have hTl : (tabOf (l.take k)).length ≤ 4096 := by have := tabOf_length_le (l.take k); have := List.length_take_le k l; omega
    by_cases hlt : k < n
    · have HL : Hid (HasL V a n l) := HZ.out.below (by rw [← HG.out]; exact HB.out)
      obtain ⟨b, off, hx, hb, hcell⟩ := HL.out.at' (by omega)
      subst hx
      have HCL : Hid (∀ i, i < n → lcAt V b (off + i * 3) (l.getD i lc0)) := hcell
      have hgl := HR.out.lt
      clear hcell HL
      have hsz : Hid (g ≤ V.heap.size) := Nat.le_of_lt hgl
      go_wp2_with fail
      go_loopw [7, 8] (fun fo j wj => fo = .bool false ∧ ∃ k2 : Nat, k2 ≤ k ∧ j = .int .i64 k2 ∧ (∀ j', j' < k2 → (l.getD j' lc0).id ≠ (l.getD k lc0).id) ∧ V.grownBy wj none) (fun _ j _ => k - (intOf j).toNat)
      case atStart => exact ⟨rfl, 0, Nat.zero_le _, rfl, fun j hj => absurd hj (Nat.not_lt_zero _), ⟨rfl, rfl, rfl, Nat.le_refl _, fun _ _ _ => rfl⟩⟩
      case round =>
        obtain ⟨rfl, k2, hk2, rfl, hno, hgr⟩ := hrel
        have HNO : Hid (∀ j', j' < k2 → (l.getD j' lc0).id ≠ (l.getD k lc0).id) := hno
        have HGR : Hid (V.grownBy wr none) := hgr
        have HRr : Hid (RowI wr g n 0 (fun _ => 0)) := HR.out.of (hgr.block g hgl (by simp))
        have HBr : Hid (Below g w wr) := Below.grown HB.out hgr hsz.out (by simp)
        have HOr : Hid (wr.ownsRow g 21 1 (.slice ka (tabOf (l.take k)).length kc) (tabOf (l.take k)).length xs) := row_kept HO.out hgr (by simp)
        obtain ⟨p1, p2, p3⟩ := lcAt_of (HCL.out k hlt) (hgr.block b hb (by simp))
        obtain ⟨x, hx⟩ : ∃ x, x = l.getD k lc0 := ⟨_, rfl⟩
        have HX : Hid (x = l.getD k lc0) := hx
        rw [← hx] at p1 p2 p3
        by_cases hj : k2 < k
        · obtain ⟨q1, q2, q3⟩ := lcAt_of (HCL.out k2 (by omega)) (hgr.block b hb (by simp))
          obtain ⟨y, hy⟩ : ∃ y, y = l.getD k2 lc0 := ⟨_, rfl⟩
          have HY : Hid (y = l.getD k2 lc0) := hy
          rw [← hy] at q1 q2 q3
          clear hx hy hgr hno
          have hk2n : k2 < n := by omega
          by_cases hs : x.same y = true
          · have hmem : (l.getD k lc0).id ∈ tabOf (l.take k) := by
              rw [← HX.out, (Lc.same_iff x y).1 hs, HY.out]
              exact mem_take hj (by omega)
            have htab : tabOf (l.take (k + 1)) = tabOf (l.take k) := by rw [tabOf_take l k (by omega), addId, if_pos hmem]
            have HT : Hid (tabOf (l.take (k + 1)) = tabOf (l.take k)) := htab
            clear hmem htab
            go_wp2_with fail
            go_region_with (go_at_call 35; refine (same_any x y _).mono ?_; rintro e wk ⟨rfl, hgk⟩; rw [hs])
            all_goals
              have hgk2 : wr.grownBy wk none := (grown_drew wr none).trans hgk
              have HRk : Hid (RowI wk g n 0 (fun _ => 0)) := HRr.out.of (hgk2.block g HRr.out.lt (by simp))
              have HBk : Hid (Below g w wk) := Below.grown HBr.out hgk2 (Nat.le_of_lt HRr.out.lt) (by simp)
              have HOk : Hid (wk.ownsRow g 21 1 (.slice ka (tabOf (l.take k)).length kc) (tabOf (l.take k)).length xs) := row_kept HOr.out hgk2 (by simp)
              obtain ⟨z, hz⟩ := HRk.out.all k2 hk2n
              obtain ⟨z', hz'⟩ := HRk.out.all k hlt
              have hfr := HRk.out.frozen k
              clear hgk hgk2
              go_wp2
              go_round
              case rel =>
                refine ⟨k + 1, ka, kc, xs, by omega, by go_num, by rw [HT.out], ?_, HN.out, HRk.out.set k hlt z 0 (fun j hj => absurd hj (Nat.not_lt_zero _)), Below.setCell HBk.out (Nat.le_refl _) _⟩
                rw [HT.out]
                exact ownsRow_of HOk.out fun g' e => Deep.blk_setCell_other _ _ _ _ fun e' => HN.out (by rw [e, e'])
              case measure => simp [intOf]; omega
          · have hs' : x.same y = false := by simpa using hs
            go_wp2_with fail
            go_region_with (go_at_call 35; refine (same_any x y _).mono ?_; rintro e wk ⟨rfl, hgk⟩; rw [hs'])
            all_goals
              have HGk : Hid (V.grownBy wk none) := HGR.out.trans ((grown_drew wr none).trans hgk)
              clear hgk
              go_wp2
              go_round
              case rel =>
                refine ⟨rfl, k2 + 1, by omega, by go_num, fun j hj2 => ?_, HGk.out⟩
                by_cases e : j < k2
                · exact HNO.out j e
                · obtain rfl : j = k2 := by omega
                  intro e2
                  rw [← HX.out, ← HY.out] at e2
                  exact hs ((Lc.same_iff x y).2 e2.symm)
              case measure => simp [intOf]; omega
        · obtain rfl : k2 = k := by omega
          have hnm : (l.getD k2 lc0).id ∉ tabOf (l.take k2) := not_mem_take HNO.out
          have htab : tabOf (l.take (k2 + 1)) = tabOf (l.take k2) ++ [(l.getD k2 lc0).id] := by rw [tabOf_take l k2 (by omega), addId, if_neg hnm]
          have HT : Hid ((tabOf (l.take (k2 + 1))).length = (tabOf (l.take k2)).length + 1) := (by rw [htab]; simp : (tabOf (l.take (k2 + 1))).length = (tabOf (l.take k2)).length + 1)
          clear hx hgr hno hnm htab
          obtain ⟨z, hz⟩ := HRr.out.all k2 hlt
          have hfr := HRr.out.frozen k2
          have hbne : b ≠ g := by
            obtain ⟨b', off', e, hb', _⟩ := HZ.out.at' (by omega)
            have := HG.out
            simp only [Option.some.injEq, Addr.mk.injEq] at e
            omega
          obtain ⟨i0, hi0, hz0, hz1, hz2⟩ := info_parts info21m
          have HRs : Hid (RowI (wr.setCell ⟨g, k2, none⟩ (.int .i32 (tabOf (l.take k2)).length)) g n 0 (fun _ => 0)) := HRr.out.set k2 hlt _ 0 (fun j hj => absurd hj (Nat.not_lt_zero _))
          have HBs : Hid (Below g w (wr.setCell ⟨g, k2, none⟩ (.int .i32 (tabOf (l.take k2)).length))) := Below.setCell HBr.out (Nat.le_refl _) _
          have HOs : Hid ((wr.setCell ⟨g, k2, none⟩ (.int .i32 (tabOf (l.take k2)).length)).ownsRow g 21 1 (.slice ka (tabOf (l.take k2)).length kc) (tabOf (l.take k2)).length xs) := ownsRow_of HOr.out fun g' e => Deep.blk_setCell_other _ _ _ _ fun e' => HN.out (by rw [e, e'])
          have hgw : Hid (g ≤ wr.heap.size) := Nat.le_of_lt HRr.out.lt
          have hgw2 : Hid (g < wr.heap.size) := HRr.out.lt
          go_wp2_with (at_builtin; refine wpList_append_lies _ rfl (.tmp 47) (.tmp 53) 25 rfl g 21 i0 _ 1 4 under25m hi0 hz0 hz1 hz2 rfl (by decide) (.slice ka (tabOf (l.take k2)).length kc) (tabOf (l.take k2)).length xs rfl (HOs.out.alloc _) ⟨wr.heap.size, 0, none⟩ 1 1 [.int .i32 x.key] rfl rfl (by have := World.news_of_block (cs := #[.int .i32 x.key]) (t := 21) (fr := (0, 0)) (heap_alloc_new (wr.setCell ⟨g, k2, none⟩ (.int .i32 (tabOf (l.take k2)).length)) (.cells #[.int .i32 x.key] 21)); simpa using this) (by simp [Value.oneCell']) (by omega) (by unfold maxLen; omega) (by omega) (by simp; have := hgw.out; omega) _ rfl ?_; intro gg cap w1 hown1 hgrow hat hlt1)
          refine ⟨⟨k2 + 1, some ⟨gg, 0, none⟩, cap, xs ++ [.int .i32 x.key], by omega, by go_num, by rw [HT.out], by rw [HT.out]; exact hown1, ?_, ?_, ?_⟩, by simp [intOf]; omega⟩
          · simp only [Value.ownBlock, ne_eq, Option.some.injEq]
            rcases hat with h | h
            · intro e; exact HN.out (by rw [h, e])
            · have := hgw2.out; simp at h; omega
          · refine HRs.out.of ((hgrow.block g ?_ ?_).trans (Deep.blk_alloc_lt _ _ _ ?_))
            · have := hgw2.out; simp; omega
            · exact fun e => HN.out e.symm
            · have := hgw2.out; simp; omega
          · refine Below.grown (HBs.out.alloc ?_ _) hgrow ?_ fun k hk => (ownBlock_lt HOs.out hk).1
            · have := hgw.out; simp; omega
            · have := hgw.out; simp; omega
    · obtain rfl : k = n := by omega
      have e : l.take k = l := List.take_of_length_le (by omega)
      have e2 : (tabOf (l.take k)).length = (tabOf l).length := by rw [e]
      clear e
      go_wp2
      go_returns
      exact ⟨_, ka, kc, by rw [← e2]; rfl, by rw [← HG.out]; exact HB.out⟩
end Go.Proofs.Qxb6615561a
