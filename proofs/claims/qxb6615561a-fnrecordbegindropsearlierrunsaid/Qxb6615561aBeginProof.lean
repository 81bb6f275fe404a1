/-
  THE PROOF OF 'Rows.FnRecordBeginDropsEarlierRunSaid'. The frame follows the guide's own (proof-skeleton.mjs); the walk is ours.
-/
import Derived.Test.Qxb6615561aRows
import Derived.Test.Qxb6615561aLawG
import Derived.Test.Qxb6615561aOpen
import Derived.WalkKit
import Derived.ProofKit
import Derived.OpenShut
import Derived.ShutString
import Derived.ChangeOld
import Derived.Below
namespace Go.Proofs.Qxb6615561a.fnRecordBeginDropsEarlierRun
open Go.ChangeShapes Go.WideShapes Go.ChangeAt Go.RowKit
open Go.ChangeMaps (open_string shut_string)
set_option linter.unusedVariables false

theorem own : ownKnob Try.prog.godebug = none := by kernel_rfl
theorem laidOut : laidOutB Try.prog = true := by kernel_rfl

theorem walk (st en : Int) (co : Bool) (a : Option Addr) (n c : Nat) (s1 : Int) (a1 : Option Addr) (n1 c1 : Nat) (s2 : Int) (a2 : Option Addr) (n2 c2 : Nat) (A : List Acc) (l1 l2 : List Wc) (w : World) (hA : HasA w a n A) (h0 : a = none → n = 0 ∧ c = 0) (hl1 : HasC w a1 n1 l1) (hl2 : HasC w a2 n2 l2) :
    Calls Try.prog 5 #[.int .i64 st, .int .i64 en, .bool co, .slice a n c, .int .i64 s1, .slice a1 n1 c1, .int .i64 s2, .slice a2 n2 c2] w fun e w' => e = .returned (.bool true) ∧ Below w.heap.size w w' := by
  by_cases hm : n + n1 + n2 ≤ 1048576
  case neg => exact lawG_big st en s1 s2 co a a1 a2 n c n1 c1 n2 c2 w (by omega)
  by_cases h1 : n ≤ 65536
  case neg => exact lawG_n st en s1 s2 co a a1 a2 n c n1 c1 n2 c2 w hm (by omega)
  by_cases h2 : n1 ≤ 32768
  case neg => exact lawG_n1 st en s1 s2 co a a1 a2 n c n1 c1 n2 c2 w hm h1 (by omega)
  by_cases h3 : n2 ≤ 32768
  case neg => exact lawG_n2 st en s1 s2 co a a1 a2 n c n1 c1 n2 c2 w hm h1 h2 (by omega)
  by_cases h4 : n * 16 + n1 * 24 + n2 * 24 ≤ 1048576
  case neg => exact lawG_sum st en s1 s2 co a a1 a2 n c n1 c1 n2 c2 w h1 h2 h3 (by omega)
  cases hk : okKeys l1 with
  | false => exact lawG_keys1 st en s1 s2 co a a1 a2 n c n1 c1 n2 c2 l1 l2 w h1 h2 h3 h4 hl1 hl2 hk
  | true =>
    cases hk2 : okKeys l2 with
    | false => exact lawG_keys2 st en s1 s2 co a a1 a2 n c n1 c1 n2 c2 l1 l2 w h1 h2 h3 h4 hl1 hl2 hk hk2
    | true => exact lawG_main st en s1 s2 co a a1 a2 n c n1 c1 n2 c2 A l1 l2 w h1 h2 h3 h4 hA h0 hl1 hl2 hk hk2

set_option maxRecDepth 100000 in
theorem lifted (os : Os) (started : os.Started) (H : Type) (enc : TypeId × Value → H) :
    ReturnsInHanded {} Try.checked os 5 .any (Rows.fnRecordBeginDropsEarlierRunSpec.pre6 enc Try.prog Try.f5 Rows.fnRecordBeginDropsEarlierRunRow.domain false) (Rows.fnRecordBeginDropsEarlierRunSpec.post enc Try.prog Try.f5 false true false false) := by
  refine returnsInHanded_of_change (C := Try.checked) own started (by kernel_rfl) Try.func5
    (ChangeSpec.witness6 (enc := enc) (C := Try.checked) false ⟨#[], #[.int .i64 0, .int .i64 0, .bool false, .slice none 0 0, .int .i64 0, .slice none 0 0, .int .i64 0, .slice none 0 0], []⟩ 8 (by kernel_rfl) (by kernel_rfl) (by kernel_rfl) (by kernel_rfl)) ?_
  intro W base args ds gs before hval0 hW hcnd _
  have hval : ∀ (j : Nat) t v, Try.f5.params[j]? = some t → args[j]? = some v → Value.okWide Try.prog W .any base t v := hval0
  have hW' := hW
  obtain ⟨p, q, hA0, hV, rfl, hfz, hnd⟩ := hW
  have hA : DataW.TrodAll enc Try.prog W 0 (fun _ => true) true Try.f5.params.toList args.toList ds p := hA0
  rw [Try.params5] at hA hval
  obtain ⟨v0, vs0, d0, ds0, p0, q0, hargs, rfl, rfl, h0, r0⟩ := trodAll_cons hA
  obtain ⟨v1, vs1, d1, ds1, p1, q1, rfl, rfl, rfl, h1, r1⟩ := trodAll_cons r0
  obtain ⟨v2, vs2, d2, ds2, p2, q2, rfl, rfl, rfl, h2, r2⟩ := trodAll_cons r1
  obtain ⟨v3, vs3, d3, ds3, p3, q3, rfl, rfl, rfl, h3, r3⟩ := trodAll_cons r2
  obtain ⟨v4, vs4, d4, ds4, p4, q4, rfl, rfl, rfl, h4, r4⟩ := trodAll_cons r3
  obtain ⟨v5, vs5, d5, ds5, p5, q5, rfl, rfl, rfl, h5, r5⟩ := trodAll_cons r4
  obtain ⟨v6, vs6, d6, ds6, p6, q6, rfl, rfl, rfl, h6, r6⟩ := trodAll_cons r5
  obtain ⟨v7, vs7, d7, ds7, p7, q7, rfl, rfl, rfl, h7, r7⟩ := trodAll_cons r6
  obtain ⟨rfl, rfl, rfl⟩ := trodAll_nil r7
  obtain rfl : args = #[v0, v1, v2, v3, v4, v5, v6, v7] := by cases args; simp_all
  obtain ⟨rfl, rfl⟩ := trodVars_none hV
  obtain ⟨a0, rfl, rfl, rfl, w0⟩ := open_int Try.underlying2 (hval 0 2 v0 rfl rfl) h0
  obtain ⟨a1, rfl, rfl, rfl, w1⟩ := open_int Try.underlying2 (hval 1 2 v1 rfl rfl) h1
  obtain ⟨a2, rfl, rfl, rfl⟩ := open_bool Try.underlying4 (hval 2 4 v2 rfl rfl) h2
  obtain ⟨a3, len3, cap3, rfl⟩ := okWide_slice Try.underlying47 (hval 3 47 v3 rfl rfl)
  have k3 := h3
  have lt3 : ∀ x ∈ p3, x.block < W.heap.size := by obtain ⟨m, hm⟩ := k3; exact DataW.trod_lt m _ _ _ hm
  obtain ⟨a4, rfl, rfl, rfl, w4⟩ := open_int Try.underlying2 (hval 4 2 v4 rfl rfl) h4
  obtain ⟨a5, len5, cap5, rfl⟩ := okWide_slice Try.underlying48 (hval 5 48 v5 rfl rfl)
  have k5 := h5
  have lt5 : ∀ x ∈ p5, x.block < W.heap.size := by obtain ⟨m, hm⟩ := k5; exact DataW.trod_lt m _ _ _ hm
  obtain ⟨a6, rfl, rfl, rfl, w6⟩ := open_int Try.underlying2 (hval 6 2 v6 rfl rfl) h6
  obtain ⟨a7, len7, cap7, rfl⟩ := okWide_slice Try.underlying48 (hval 7 48 v7 rfl rfl)
  have k7 := h7
  have lt7 : ∀ x ∈ p7, x.block < W.heap.size := by obtain ⟨m, hm⟩ := k7; exact DataW.trod_lt m _ _ _ hm
  obtain ⟨e3, l3, w3⟩ : (a3 = none → len3 = 0 ∧ cap3 = 0) ∧ ∃ l, HasA W a3 len3 l := by
    obtain ⟨fuel, hf⟩ := h3
    exact open_accs (by simpa [Value.cells] using hf)
  obtain ⟨e5, l5, w5⟩ : (a5 = none → len5 = 0 ∧ cap5 = 0) ∧ ∃ l, HasC W a5 len5 l := by
    obtain ⟨fuel, hf⟩ := h5
    exact open_wcs (by simpa [Value.cells] using hf)
  obtain ⟨e7, l7, w7⟩ : (a7 = none → len7 = 0 ∧ cap7 = 0) ∧ ∃ l, HasC W a7 len7 l := by
    obtain ⟨fuel, hf⟩ := h7
    exact open_wcs (by simpa [Value.cells] using hf)
  clear hA0 hval0
  refine (walk a0 a1 a2 a3 len3 cap3 a4 a5 len5 cap5 a6 a7 len7 cap7 l3 l5 l7 W w3 e3 w5 w7).mono fun e W' ⟨he, bel⟩ => ?_
  subst he
  exact ⟨_, rfl, _, _, _, [], _, [], hW', trodAll_mk1 (shut_bool Try.underlying4 _), (trodAll_cons_mk (shut_int Try.underlying2 w0) (trodAll_cons_mk (shut_int Try.underlying2 w1) (trodAll_cons_mk (shut_bool Try.underlying4 _) (trodAll_cons_mk (Below.trod laidOut (by kernel_rfl) (of_decide_eq_true (by kernel_rfl)) k3 bel lt3) (trodAll_cons_mk (shut_int Try.underlying2 w4) (trodAll_cons_mk (Below.trod laidOut (by kernel_rfl) (of_decide_eq_true (by kernel_rfl)) k5 bel lt5) (trodAll_cons_mk (shut_int Try.underlying2 w6) (trodAll_cons_mk (Below.trod laidOut (by kernel_rfl) (of_decide_eq_true (by kernel_rfl)) k7 bel lt7) trodAll_mk0)))))))), rfl, bel.frame _, fun h => by cases h⟩

theorem over : Rows.fnRecordBeginDropsEarlierRunRow.holds Try.pinned (OpenSpec.ofChange Rows.fnRecordBeginDropsEarlierRunSpec) :=
  OpenClaim.holds_of_wide 5 Try.f5 rfl rfl rfl rfl rfl rfl rfl ⟨rfl, rfl, rfl, rfl, rfl⟩ rfl rfl rfl rfl rfl (by kernel_rfl) Try.func5 (by kernel_rfl)
    (of_decide_eq_true (by kernel_rfl)) (by unfold Func.isWrapper; first | (rw [if_pos (by decide +kernel)]; kernel_rfl) | (rw [if_neg (by decide +kernel)]; exact ⟨rfl, rfl⟩))
    (fun os started H enc _ => lifted os started H enc)

/-- THE STATEMENT -/
theorem proved : Rows.FnRecordBeginDropsEarlierRunSaid := over
end Go.Proofs.Qxb6615561a.fnRecordBeginDropsEarlierRun
