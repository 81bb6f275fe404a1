/-
  zzIsLongestGap, where it answers true.
-/
import Derived.Test.Qxb6615118aWalksC
namespace Go.Proofs.Qxb6615118a
open Go.ChangeShapes Go.WideShapes Go.ChangeAt Go.RowKit
open Plain

theorem cnt_le (l : List Int) (k : Nat) : cnt (l.take k) ≤ k := by
  unfold cnt
  have h1 := List.length_filter_le isSep (l.take k)
  have h2 : (l.take k).length ≤ k := List.length_take_le _ _
  omega

set_option maxHeartbeats 2000000 in
theorem gap_core (a : Option Addr) (n c : Nat) (zs : List Int) (l : Nat) (w : World) (hm : n ≤ 1048576) (hz : Has w a n zs) (hg : Gap zs l) :
    Calls Try.prog 9 #[.slice a n c, .int .i64 l] w fun e w' => e = .returned (.bool true) ∧ w' = w := by
  have hln : l ≤ n := by have := hg.le; have := hz.len; omega
  have HG : Hid (Gap zs l) := hg
  have HZ : Hid (Has w a n zs) := hz
  clear hg hz
  have hl0 : decide ((l : Int) < 0) = false := decide_eq_false (by omega)
  have hl1 : decide (n < l) = false := decide_eq_false (by omega)
  go_enter Try.func9, Try.ntmps9
  go_wp2
  go_loop [5, 6] (fun s i => ∃ k : Nat, k ≤ l ∧ i = .int .i64 k ∧ s = .int .i64 (cnt (zs.take k) : Nat)) (fun _ i => l - (intOf i).toNat)
  case atStart => exact ⟨0, Nat.zero_le _, rfl, rfl⟩
  case round =>
    obtain ⟨k, hk, rfl, rfl⟩ := hrel
    have hcl := cnt_le zs k
    by_cases hlt : k < l
    · obtain ⟨b, off, rfl, hb, hcell⟩ := HZ.out.at' (by omega)
      have hc := hcell k (by omega)
      have hzl : k < zs.length := by have := HZ.out.len; omega
      have hsn : Hid _ := cnt_snoc zs k hzl
      have hall : Hid _ := HG.out.all k hlt
      obtain ⟨z, hz⟩ : ∃ z, z = zs.getD k 0 := ⟨_, rfl⟩
      rw [← hz] at hc hsn hall
      clear hz hcell
      obtain ⟨cn, hcn⟩ : ∃ cn, cn = cnt (zs.take k) := ⟨_, rfl⟩
      rw [← hcn] at hsn hcl
      rw [← hcn]
      clear hcn
      by_cases hs : isSep z = true
      · have HE : Hid (cnt (zs.take (k + 1)) = cn + 1) := by have := hsn.out; rwa [if_pos hs] at this
        clear hsn hall
        go_wp2_with (first | (go_at_call 12; refine (isSep_any _ _).mono ?_; rintro e w' ⟨rfl, rfl⟩) | (go_at_call 13; refine (isSpace_any _ _).mono ?_; rintro e w' ⟨rfl, rfl⟩))
        go_round
        case rel => exact ⟨k + 1, by omega, by go_num, by rw [HE.out]; go_num⟩
        case measure => simp [intOf]; omega
      · have hs' : isSep z = false := by simpa using hs
        have hsp := hall.out hs'
        have HE : Hid (cnt (zs.take (k + 1)) = cn) := by have := hsn.out; rwa [if_neg hs] at this
        clear hsn hall hs
        go_wp2_with (first | (go_at_call 12; refine (isSep_any _ _).mono ?_; rintro e w' ⟨rfl, rfl⟩) | (go_at_call 13; refine (isSpace_any _ _).mono ?_; rintro e w' ⟨rfl, rfl⟩))
        go_round
        case rel => exact ⟨k + 1, by omega, by go_num, by rw [HE.out]⟩
        case measure => simp [intOf]; omega
    · obtain rfl : k = l := by omega
      have hone := HG.out.one
      have hnsep : Hid _ := HG.out.notSep
      obtain ⟨cn, hcn⟩ : ∃ cn, cn = cnt (zs.take k) := ⟨_, rfl⟩
      rw [← hcn] at hcl hone hnsep
      rw [← hcn]
      clear hcn
      by_cases hkn : k < n
      · obtain ⟨b, off, rfl, hb, hcell⟩ := HZ.out.at' (by omega)
        have hc := hcell k (by omega)
        have hzl : k < zs.length := by have := HZ.out.len; omega
        have hsp := HG.out.notSp hzl
        have hnsep' : Hid _ := hnsep.out hzl
        obtain ⟨z, hz⟩ : ∃ z, z = zs.getD k 0 := ⟨_, rfl⟩
        rw [← hz] at hc hsp hnsep'
        clear hz hcell hnsep
        have hne : ((k : Int) == (n : Int)) = false := by simp; omega
        by_cases hs : isSep z = true
        · have h1 := hnsep'.out hs
          have h2 : ((cn : Int) == 0) = false := by simp; omega
          clear hnsep' h1
          go_wp2_with (first | (go_at_call 12; refine (isSep_any _ _).mono ?_; rintro e w' ⟨rfl, rfl⟩) | (go_at_call 13; refine (isSpace_any _ _).mono ?_; rintro e w' ⟨rfl, rfl⟩))
          go_ret
          exact ⟨rfl, rfl⟩
        · have hs' : isSep z = false := by simpa using hs
          clear hnsep' hs
          go_wp2_with (first | (go_at_call 12; refine (isSep_any _ _).mono ?_; rintro e w' ⟨rfl, rfl⟩) | (go_at_call 13; refine (isSpace_any _ _).mono ?_; rintro e w' ⟨rfl, rfl⟩))
          go_ret
          exact ⟨rfl, rfl⟩
      · obtain rfl : k = n := by omega
        clear hnsep
        go_wp2_with fail
        go_ret
        exact ⟨rfl, rfl⟩

theorem gap_any (a : Option Addr) (n c : Nat) (zs : List Int) (l : Nat) (l' : Int) (w : World) (hm : n ≤ 1048576) (hl : l' = l) (hz : Has w a n zs) (hg : Gap zs l) :
    Calls Try.prog 9 #[.slice a n c, .int .i64 l'] w fun e w' => e = .returned (.bool true) ∧ w' = w := by
  subst hl
  exact gap_core a n c zs l w hm hz hg
end Go.Proofs.Qxb6615118a
