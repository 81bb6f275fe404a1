/-
  THE LEAVES: zzIsSpace, zzIsSep, skipSpace.
-/
import Derived.Test.Qxb6615118aRows
import Derived.Test.Qxb6615118aPlain
import Derived.WalkKit
import Derived.WalkSpells
import Derived.WalkLawsBesides
import Derived.Handy
import Derived.Deep.QuietTactic
import Derived.BigQuiet
namespace Go.Proofs.Qxb6615118a
open Go.ChangeShapes Go.WideShapes Go.ChangeAt Go.RowKit
open Plain

theorem ret_int {k : IntKind} {a b : Int} (h : a = b) : Ending.returned (.int k a) = .returned (.int k b) := by rw [h]

theorem isSpace_any (c : Int) (w : World) : Calls Try.prog 13 #[.int .u8 c] w fun e w' => e = .returned (.bool (isSp c)) ∧ w' = w := by
  by_cases h1 : c = 32
  · subst h1; go_enter Try.func13, Try.ntmps13; go_wp2; go_ret; exact ⟨rfl, rfl⟩
  by_cases h2 : c = 9
  · subst h2; go_enter Try.func13, Try.ntmps13; go_wp2; go_ret; exact ⟨rfl, rfl⟩
  by_cases h3 : c = 10
  · subst h3; go_enter Try.func13, Try.ntmps13; go_wp2; go_ret; exact ⟨rfl, rfl⟩
  by_cases h4 : c = 13
  · subst h4; go_enter Try.func13, Try.ntmps13; go_wp2; go_ret; exact ⟨rfl, rfl⟩
  have hs : isSp c = false := by simp [isSp]; omega
  have g1 : (c == 32) = false := by simpa using h1
  have g2 : (c == 9) = false := by simpa using h2
  have g3 : (c == 10) = false := by simpa using h3
  have g4 : (c == 13) = false := by simpa using h4
  rw [hs]
  clear h1 h2 h3 h4 hs
  go_enter Try.func13, Try.ntmps13; go_wp2; go_ret; exact ⟨rfl, rfl⟩

theorem isSep_any (c : Int) (w : World) : Calls Try.prog 12 #[.int .u8 c] w fun e w' => e = .returned (.bool (isSep c)) ∧ w' = w := by
  by_cases h1 : c = 44
  · subst h1; go_enter Try.func12, Try.ntmps12; go_wp2; go_ret; exact ⟨rfl, rfl⟩
  by_cases h2 : c = 58
  · subst h2; go_enter Try.func12, Try.ntmps12; go_wp2; go_ret; exact ⟨rfl, rfl⟩
  have hs : isSep c = false := by simp [isSep]; omega
  have g1 : (c == 44) = false := by simpa using h1
  have g2 : (c == 58) = false := by simpa using h2
  rw [hs]
  clear h1 h2 hs
  go_enter Try.func12, Try.ntmps12; go_wp2; go_ret; exact ⟨rfl, rfl⟩

/-- WHAT IS KNOWN OF A SLICE OF BYTES: its elements; where there is one, its address and cells. -/
structure Has (w : World) (a : Option Addr) (n : Nat) (zs : List Int) : Prop where
  len : zs.length = n
  at' : n ≠ 0 → ∃ b off, a = some ⟨b, off, none⟩ ∧ b < w.heap.size ∧ ∀ i, i < n → w.cell? ⟨b, off + i, none⟩ = some (.int .u8 (zs.getD i 0))

theorem Has.drewN {w : World} {a : Option Addr} {n : Nat} {zs : List Int} (h : Has w a n zs) (k : Nat) : Has (w.drewN k) a n zs := by
  refine ⟨h.len, fun hn => ?_⟩
  obtain ⟨b, off, ha, hb, hc⟩ := h.at' hn
  exact ⟨b, off, ha, by simpa using hb, fun i hi => by simpa using hc i hi⟩

set_option maxHeartbeats 1000000 in
theorem skip_any (a : Option Addr) (n c : Nat) (zs : List Int) (i : Nat) (w : World) (hm : n ≤ maxLen) (hi : i ≤ n) (hz : Has w a n zs) :
    Calls Try.prog 14 #[.slice a n c, .int .i64 i] w fun e w' => e = .returned (.int .i64 ((i + skip (zs.drop i) : Nat) : Int)) ∧ w' = w := by
  unfold maxLen at hm
  obtain ⟨hlen, hat⟩ := hz
  go_enter Try.func14, Try.ntmps14
  go_wp2
  go_loop [1] (fun t => ∃ k : Nat, i ≤ k ∧ k ≤ n ∧ t = .int .i64 k ∧ k + skip (zs.drop k) = i + skip (zs.drop i)) (fun t => n - (intOf t).toNat)
  case atStart => exact ⟨i, Nat.le_refl _, hi, rfl, rfl⟩
  case round =>
    obtain ⟨k, hk1, hk2, rfl, hk3⟩ := hrel
    have HK : Hid (k + skip (zs.drop k) = i + skip (zs.drop i)) := hk3
    have HL : Hid (zs.length = n) := hlen
    clear hk3 hlen
    by_cases hlt : k < n
    · obtain ⟨b, off, rfl, hb, hcell⟩ := hat (by omega)
      have hc := hcell k hlt
      obtain ⟨z, hz⟩ : ∃ z, z = zs.getD k 0 := ⟨_, rfl⟩
      rw [← hz] at hc
      have HZ : Hid (z = zs.getD k 0) := hz
      clear hz hcell hat
      by_cases hs : isSp z = true
      · have e := skip_step zs k (by have := HL.out; omega) (by rw [← HZ.out]; exact hs)
        have HE : Hid (k + 1 + skip (zs.drop (k + 1)) = i + skip (zs.drop i)) := by have := HK.out; show _ = _; omega
        clear e
        have hs' : z = 32 ∨ z = 9 ∨ z = 10 ∨ z = 13 := by simpa [isSp, or_assoc] using hs
        clear hs
        rcases hs' with h | h | h | h <;> subst h
        all_goals
          go_wp2
          go_round
          case rel => exact ⟨k + 1, by omega, by omega, by go_num, HE.out⟩
          case measure => simp [intOf]; omega
      · have hs' : isSp z = false := by simpa using hs
        have e := skip_stop zs k (by have := HL.out; omega) (by rw [← HZ.out]; exact hs')
        have HE : Hid (k = i + skip (zs.drop i)) := by have := HK.out; show _ = _; omega
        clear e hs
        have g : (z == 32) = false ∧ (z == 9) = false ∧ (z == 10) = false ∧ (z == 13) = false := by
          simp [isSp] at hs'; simp; omega
        obtain ⟨g1, g2, g3, g4⟩ := g
        clear hs'
        go_wp2
        go_ret
        exact ⟨ret_int (by have := HE.out; omega), rfl⟩
    · have e := skip_past zs k (by have := HL.out; omega)
      have HE : Hid (k = i + skip (zs.drop i)) := by have := HK.out; show _ = _; omega
      clear e hat
      go_wp2
      go_ret
      exact ⟨ret_int (by have := HE.out; omega), rfl⟩
end Go.Proofs.Qxb6615118a
