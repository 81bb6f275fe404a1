/-
  tokenStart, ZZtokenStart.
-/
import Derived.Test.Qxb6615118aWalksA
namespace Go.Proofs.Qxb6615118a
open Go.ChangeShapes Go.WideShapes Go.ChangeAt Go.RowKit
open Plain

/-- Where a slice begins that is cut at 'off'. -/
def cutAt (a : Option Addr) (c off : Nat) : Option Addr := if c = off then a else a.map (·.add off)

theorem Has.cut {w : World} {a : Option Addr} {n : Nat} {zs : List Int} (h : Has w a n zs) (c off : Nat) (hoff : off ≤ n) (hc : n ≤ c) : Has w (cutAt a c off) (n - off) (zs.drop off) := by
  refine ⟨by simp [h.len], fun hn => ?_⟩
  obtain ⟨b, o, ha, hb, hcell⟩ := h.at' (by omega)
  refine ⟨b, o + off, ?_, hb, fun i hi => ?_⟩
  · unfold cutAt; rw [if_neg (by omega), ha]; simp [Addr.add]
  · rw [Nat.add_assoc, hcell (off + i) (by omega), getD_drop]

theorem skip_zero (a : Option Addr) (n c : Nat) (zs : List Int) (w : World) (hm : n ≤ maxLen) (hz : Has w a n zs) :
    Calls Try.prog 14 #[.slice a n c, .int .i64 0] w fun e w' => e = .returned (.int .i64 (skip zs : Nat)) ∧ w' = w := by
  have h := skip_any a n c zs 0 w hm (Nat.zero_le _) hz
  simpa using h

theorem skip_next (a : Option Addr) (n c : Nat) (zs : List Int) (i : Nat) (w : World) (hm : n ≤ maxLen) (hi : i + 1 ≤ n) (hz : Has w a n zs) :
    Calls Try.prog 14 #[.slice a n c, .int .i64 ((i : Int) + 1)] w fun e w' => e = .returned (.int .i64 ((i + 1 + skip (zs.drop (i + 1)) : Nat) : Int)) ∧ w' = w := by
  have h := skip_any a n c zs (i + 1) w hm hi hz
  rw [show ((i : Int) + 1) = ((i + 1 : Nat) : Int) from by omega]
  exact h

set_option maxHeartbeats 1000000 in
theorem tok_core (r : Nat) (a : Option Addr) (n c : Nat) (zs : List Int) (base : Int) (off : Nat) (w : World) (hm : n ≤ 1048576) (hnc : n ≤ c) (hoff : off ≤ n) (hz : Has w a n zs)
    (hb0 : 0 ≤ base) (hb1 : base + n ≤ 9223372036854775807) (g1 : w.cell? ⟨r, 1, none⟩ = some (.slice a n c)) (g2 : w.cell? ⟨r, 2, none⟩ = some (.int .i64 base)) :
    Calls Try.prog 11 #[.pointer (some ⟨r, 0, none⟩), .int .i64 (base + off)] w fun e w' => e = .returned (.int .i64 (base + off + (tok (zs.drop off) : Nat))) ∧ ∃ q, w' = w.drewN q := by
  have hcut := hz.cut c off hoff hnc
  have h1 := skip_le (zs.drop off)
  have HT : Hid (tok (zs.drop off) = if skip (zs.drop off) < (zs.drop off).length ∧ isSep ((zs.drop off).getD (skip (zs.drop off)) 0) = true then skip (zs.drop off) + 1 + skip ((zs.drop off).drop (skip (zs.drop off) + 1)) else skip (zs.drop off)) := rfl
  have h2 := skip_le ((zs.drop off).drop (skip (zs.drop off) + 1))
  rw [List.length_drop] at h2
  rw [hcut.len] at h1 h2
  have HT' := HT.out
  rw [hcut.len] at HT'
  have HT : Hid _ := HT'
  clear HT' hz
  generalize zs.drop off = ys at *
  have hoff' : (off : Int) ≤ (n : Int) := by omega
  have eo : (base + (off : Int) - base) = off := by omega
  go_enter Try.func11, Try.ntmps11
  go_wp2
  go_quiet (fail)
  rw [show (if c = off then a else Option.map (fun x => x.add off) a) = cutAt a c off from rfl]
  clear eo g1 g2
  have hM : (off : Int) + ((n - off : Nat) : Int) = n := by omega
  have HM : Hid ((off : Int) + ((n - off : Nat) : Int) = n) := hM
  clear hM
  generalize cutAt a c off = A at *
  generalize n - off = m at *
  generalize c - off = cc at *
  have hmm : m ≤ 1048576 := by have := HM.out; omega
  have hbm : base + off + m ≤ 9223372036854775807 := by have := HM.out; omega
  clear hb1 hoff'
  go_wp2_with fail
  refine (skip_zero _ _ _ ys _ (by unfold maxLen; omega) (hcut.drewN _)).mono ?_
  rintro e w' ⟨rfl, rfl⟩
  obtain ⟨k, hk⟩ : ∃ k, k = skip ys := ⟨_, rfl⟩
  rw [← hk]
  rw [← hk] at h1 h2 HT
  clear hk
  by_cases hlt : k < m
  · obtain ⟨b, o, rfl, hb, hcell⟩ := hcut.at' (by omega)
    have hc := hcell k hlt
    obtain ⟨z, hz⟩ : ∃ z, z = ys.getD k 0 := ⟨_, rfl⟩
    rw [← hz] at hc HT
    clear hz hcell
    by_cases hs : isSep z = true
    · have HE : Hid (tok ys = k + 1 + skip (ys.drop (k + 1))) := by have := HT.out; rwa [if_pos ⟨hlt, hs⟩] at this
      clear HT
      have hs' : z = 44 ∨ z = 58 := by simpa [isSep] using hs
      clear hs
      rcases hs' with h | h <;> subst h
      all_goals
        go_wp2_with (go_at_call 14; refine (skip_next _ _ _ ys k _ (by unfold maxLen; omega) (by omega) (hcut.drewN _)).mono ?_; rintro e w' ⟨rfl, rfl⟩)
        go_ret
        exact ⟨ret_int (by have := HE.out; omega), _, rfl⟩
    · have HE : Hid (tok ys = k) := by have := HT.out; rwa [if_neg (fun h => hs h.2)] at this
      clear HT
      have g : (z == 44) = false ∧ (z == 58) = false := by
        simp [isSep] at hs; simp; omega
      obtain ⟨g1, g2⟩ := g
      clear hs
      go_wp2_with fail
      go_ret
      exact ⟨ret_int (by have := HE.out; omega), _, rfl⟩
  · have HE : Hid (tok ys = k) := by have := HT.out; rwa [if_neg (fun h => hlt h.1)] at this
    clear HT
    go_wp2_with fail
    go_ret
    exact ⟨ret_int (by have := HE.out; omega), _, rfl⟩
end Go.Proofs.Qxb6615118a
