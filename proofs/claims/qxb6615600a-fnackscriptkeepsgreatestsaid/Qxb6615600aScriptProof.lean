/-
  THE PROOF OF 'Rows.FnAckScriptKeepsGreatestSaid'. The frame follows the guide's own (proof-skeleton.mjs); the walk is ours.
-/
import Derived.Test.Qxb6615600aRows
import Derived.Test.Qxb6615600aLawH
import Derived.Deep.Slices
import Derived.WalkKit
import Derived.ProofKit
import Derived.OpenShut
import Derived.ShutString
import Derived.ChangeOld
import Derived.Below
namespace Go.Proofs.Qxb6615600a.fnAckScriptKeepsGreatest
open Go.ChangeShapes Go.WideShapes Go.ChangeAt Go.RowKit
open Go.ChangeMaps (open_string shut_string)
open Plain
set_option linter.unusedVariables false

theorem own : ownKnob Try.prog.godebug = none := by kernel_rfl
theorem laidOut : laidOutB Try.prog = true := by kernel_rfl
theorem Try.cells31 : Try.prog.cellsOf 31 = 3 := by kernel_rfl
theorem Try.cells22 : Try.prog.cellsOf 22 = 1 := by kernel_rfl

section
variable {H : Type} {enc : TypeId × Value → H} {w : World}

/-- A list by its elements. -/
theorem list_by {α : Type} (d : α) (n : Nat) (f : Nat → α) : ∃ l : List α, l.length = n ∧ ∀ i, i < n → l.getD i d = f i :=
  ⟨(List.range n).map f, by simp, fun i hi => by simp [hi]⟩

theorem spot_none {x : Addr} {v : Value} (h : w.cell? x = some v) : ∃ b off, x = ⟨b, off, none⟩ ∧ b < w.heap.size := by
  obtain ⟨b, off, spot⟩ := x
  have hs : spot = none := by simpa using World.cell?_spot h
  subst hs
  exact ⟨b, off, rfl, World.block_lt_of_cell? w _ h⟩

theorem len3 {α : Type} (l : List α) (h : l.length = 3) : ∃ a b c, l = [a, b, c] := by
  match l, h with
  | [a, b, c], _ => exact ⟨a, b, c, rfl⟩

theorem open_sps {fuel : Nat} {a : Option Addr} {len cap : Nat} {x : DataW H × List MemPlace} (h : DataW.trod enc Try.prog w 0 (fun _ => true) true fuel 23 [.slice a len cap] = some x) :
    (a = none → len = 0 ∧ cap = 0) ∧ ∃ l, HasS w a len l := by
  rcases Deep.open_slice Try.underlying23 h with ⟨h0, _⟩ | ⟨ad, len', cap', m, n, D, Pl, h0, hb, hl, hm, hmm, _, hx⟩
  · simp only [List.cons.injEq, Value.slice.injEq, and_true] at h0
    obtain ⟨rfl, rfl, rfl⟩ := h0
    exact ⟨fun _ => ⟨rfl, rfl⟩, [], rfl, fun h => absurd rfl h⟩
  · simp only [List.cons.injEq, Value.slice.injEq, and_true] at h0
    obtain ⟨rfl, rfl, rfl⟩ := h0
    refine ⟨fun h => (by cases h), ?_⟩
    have each : ∀ i, i < len → ∃ y : Sp, w.cell? (ad.add (i * 3)) = some (.int .u64 y.n) ∧ w.cell? (ad.add (i * 3 + 1)) = some (.int .u64 y.b) ∧ w.cell? (ad.add (i * 3 + 2)) = some (.int .u64 y.e) := by
      intro i hi
      obtain ⟨cs', h1, h2⟩ := hx i (by rw [hmm]; split <;> omega)
      rw [Try.cells31] at h1
      obtain ⟨_, hlen, hcell⟩ := World.cells?_some h1
      obtain ⟨xs, k, hk, _, _, hxl, hf⟩ := DataW.trod_struct Try.underlying31 h2
      obtain ⟨y0, y1, y2, rfl⟩ := len3 xs (by simpa using hxl)
      obtain ⟨v0, v1, v2, rfl⟩ := len3 cs' hlen
      · skip
        have g0 := hf 0 _ rfl
        have g1 := hf 1 _ rfl
        have g2 := hf 2 _ rfl
        simp [Try.cells22] at g0 g1 g2
        obtain ⟨n0, e0, _, _⟩ := DataW.trod_int Try.underlying22 g0
        obtain ⟨n1, e1, _, _⟩ := DataW.trod_int Try.underlying22 g1
        obtain ⟨b2, e2, _, _⟩ := DataW.trod_int Try.underlying22 g2
        simp only [List.cons.injEq, and_true] at e0 e1 e2
        subst e0 e1 e2
        have c0 := hcell 0 (by omega)
        have c1 := hcell 1 (by omega)
        have c2 := hcell 2 (by omega)
        rw [Deep.add_add] at c0 c1 c2
        exact ⟨⟨n0, n1, b2⟩, by simpa using c0, by simpa using c1, by simpa using c2⟩
    have : Inhabited Sp := ⟨sp0⟩
    obtain ⟨f, hf⟩ := Deep.choose_lt each
    obtain ⟨l, hll, hlf⟩ := list_by sp0 len f
    refine ⟨l, hll, fun hn => ?_⟩
    obtain ⟨b, off, hxx, hblt⟩ := spot_none (hf 0 (by omega)).1
    have hsp : ∃ b off, ad = ⟨b, off, none⟩ := by
      obtain ⟨b', off', spot⟩ := ad
      have hs : spot = none := by simpa [Addr.add] using World.cell?_spot (hf 0 (by omega)).1
      exact ⟨b', off', by rw [hs]⟩
    obtain ⟨b', off', rfl⟩ := hsp
    rw [add_plain] at hxx
    simp only [Addr.mk.injEq] at hxx
    obtain ⟨rfl, _, _⟩ := hxx
    refine ⟨b', off', rfl, hblt, fun i hi => ?_⟩
    rw [hlf i hi]
    obtain ⟨g0, g1, g2⟩ := hf i hi
    rw [add_plain] at g0 g1 g2
    exact ⟨g0, by rw [Nat.add_assoc]; exact g1, by rw [Nat.add_assoc]; exact g2⟩
end

theorem walk (n0 b0 e0 : Int) (a : Option Addr) (n c : Nat) (l : List Sp) (w : World) (hl : HasS w a n l) :
    Calls Try.prog 3 #[.int .u64 n0, .int .u64 b0, .int .u64 e0, .slice a n c] w fun e w' => e = .returned (.bool true) ∧ Below w.heap.size w w' := by
  by_cases hm : n ≤ 1048576
  case neg => exact lawS_big n0 b0 e0 a n c w (by omega)
  by_cases h2 : n ≤ 32768
  case neg => exact lawS_mid n0 b0 e0 a n c w hm (by omega)
  by_cases hG : n0 < gm n0 l
  · exact lawS_high n0 b0 e0 a n c l w h2 hl hG
  · exact lawS_low n0 b0 e0 a n c l w h2 hl hG

set_option maxRecDepth 100000 in
theorem lifted (os : Os) (started : os.Started) (H : Type) (enc : TypeId × Value → H) :
    ReturnsInHanded {} Try.checked os 3 .any (Rows.fnAckScriptKeepsGreatestSpec.pre6 enc Try.prog Try.f3 Rows.fnAckScriptKeepsGreatestRow.domain false) (Rows.fnAckScriptKeepsGreatestSpec.post enc Try.prog Try.f3 false true false false) := by
  refine returnsInHanded_of_change (C := Try.checked) own started (by kernel_rfl) Try.func3
    (ChangeSpec.witness6 (enc := enc) (C := Try.checked) false ⟨#[], #[.int .u64 0, .int .u64 0, .int .u64 0, .slice none 0 0], []⟩ 8 (by kernel_rfl) (by kernel_rfl) (by kernel_rfl) (by kernel_rfl)) ?_
  intro W base args ds gs before hval0 hW hcnd _
  have hval : ∀ (j : Nat) t v, Try.f3.params[j]? = some t → args[j]? = some v → Value.okWide Try.prog W .any base t v := hval0
  have hW' := hW
  obtain ⟨p, q, hA0, hV, rfl, hfz, hnd⟩ := hW
  have hA : DataW.TrodAll enc Try.prog W 0 (fun _ => true) true Try.f3.params.toList args.toList ds p := hA0
  rw [Try.params3] at hA hval
  obtain ⟨v0, vs0, d0, ds0, p0, q0, hargs, rfl, rfl, h0, r0⟩ := trodAll_cons hA
  obtain ⟨v1, vs1, d1, ds1, p1, q1, rfl, rfl, rfl, h1, r1⟩ := trodAll_cons r0
  obtain ⟨v2, vs2, d2, ds2, p2, q2, rfl, rfl, rfl, h2, r2⟩ := trodAll_cons r1
  obtain ⟨v3, vs3, d3, ds3, p3, q3, rfl, rfl, rfl, h3, r3⟩ := trodAll_cons r2
  obtain ⟨rfl, rfl, rfl⟩ := trodAll_nil r3
  obtain rfl : args = #[v0, v1, v2, v3] := by cases args; simp_all
  obtain ⟨rfl, rfl⟩ := trodVars_none hV
  obtain ⟨a0, rfl, rfl, rfl, w0⟩ := open_int Try.underlying22 (hval 0 22 v0 rfl rfl) h0
  obtain ⟨a1, rfl, rfl, rfl, w1⟩ := open_int Try.underlying22 (hval 1 22 v1 rfl rfl) h1
  obtain ⟨a2, rfl, rfl, rfl, w2⟩ := open_int Try.underlying22 (hval 2 22 v2 rfl rfl) h2
  obtain ⟨a3, len3, cap3, rfl⟩ := okWide_slice Try.underlying23 (hval 3 23 v3 rfl rfl)
  have k3 := h3
  have lt3 : ∀ x ∈ p3, x.block < W.heap.size := by obtain ⟨m, hm⟩ := k3; exact DataW.trod_lt m _ _ _ hm
  obtain ⟨e3, l3, w3⟩ : (a3 = none → len3 = 0 ∧ cap3 = 0) ∧ ∃ l, HasS W a3 len3 l := by
    obtain ⟨fuel, hf⟩ := h3
    exact open_sps (by simpa [Value.cells] using hf)
  clear hA0 hval0
  refine (walk a0 a1 a2 a3 len3 cap3 l3 W w3).mono fun e W' ⟨he, bel⟩ => ?_
  subst he
  exact ⟨_, rfl, _, _, _, [], _, [], hW', trodAll_mk1 (shut_bool Try.underlying4 _), (trodAll_cons_mk (shut_int Try.underlying22 w0) (trodAll_cons_mk (shut_int Try.underlying22 w1) (trodAll_cons_mk (shut_int Try.underlying22 w2) (trodAll_cons_mk (Below.trod laidOut (by kernel_rfl) (of_decide_eq_true (by kernel_rfl)) k3 bel lt3) trodAll_mk0)))), rfl, bel.frame _, fun h => by cases h⟩

theorem over : Rows.fnAckScriptKeepsGreatestRow.holds Try.pinned (OpenSpec.ofChange Rows.fnAckScriptKeepsGreatestSpec) :=
  OpenClaim.holds_of_wide 3 Try.f3 rfl rfl rfl rfl rfl rfl rfl ⟨rfl, rfl, rfl, rfl, rfl⟩ rfl rfl rfl rfl rfl (by kernel_rfl) Try.func3 (by kernel_rfl)
    (of_decide_eq_true (by kernel_rfl)) (by unfold Func.isWrapper; first | (rw [if_pos (by decide +kernel)]; kernel_rfl) | (rw [if_neg (by decide +kernel)]; exact ⟨rfl, rfl⟩))
    (fun os started H enc _ => lifted os started H enc)

/-- THE STATEMENT -/
theorem proved : Rows.FnAckScriptKeepsGreatestSaid := over
end Go.Proofs.Qxb6615600a.fnAckScriptKeepsGreatest
