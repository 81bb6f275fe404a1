/-
  THE PROOF OF 'Rows.FnRecordWriteLogsEveryWriteSaid'. The frame follows the guide's own (proof-skeleton.mjs); the walk is ours.
-/
import Derived.Test.Qxb6615561aRows
import Derived.Test.Qxb6615561aLawW
import Derived.Test.Qxb6615561aOpen
import Derived.WalkKit
import Derived.ProofKit
import Derived.OpenShut
import Derived.ShutString
import Derived.ChangeOld
import Derived.Below
namespace Go.Proofs.Qxb6615561a.fnRecordWriteLogsEveryWrite
open Go.ChangeShapes Go.WideShapes Go.ChangeAt Go.RowKit
open Go.ChangeMaps (open_string shut_string)
set_option linter.unusedVariables false

theorem own : ownKnob Try.prog.godebug = none := by kernel_rfl
theorem laidOut : laidOutB Try.prog = true := by kernel_rfl

theorem walk (st en : Int) (co : Bool) (a : Option Addr) (n c : Nat) (a' : Option Addr) (n' c' : Nat) (A : List Acc) (l : List Wc) (w : World) (hA : HasA w a n A) (h0 : a = none → n = 0 ∧ c = 0) (hl : HasC w a' n' l) :
    Calls Try.prog 6 #[.int .i64 st, .int .i64 en, .bool co, .slice a n c, .slice a' n' c'] w fun e w' => e = .returned (.bool true) ∧ Below w.heap.size w w' := by
  by_cases hm : n + n' ≤ 1048576
  case neg => exact lawW_big st en co a a' n c n' c' w (by omega)
  by_cases h1 : n ≤ 65536
  case neg => exact lawW_n st en co a a' n c n' c' w hm (by omega)
  by_cases h2 : n' ≤ 32768
  case neg => exact lawW_m st en co a a' n c n' c' w hm h1 (by omega)
  by_cases h3 : n * 16 + n' * 24 ≤ 1048576
  case neg => exact lawW_sum st en co a a' n c n' c' w h1 h2 (by omega)
  cases hk : okKeys l with
  | false => exact lawW_keys st en co a a' n c n' c' l w h1 h2 h3 hl hk
  | true => exact lawW_main st en co a a' n c n' c' A l w h1 h2 h3 hA h0 hl hk

set_option maxRecDepth 100000 in
theorem lifted (os : Os) (started : os.Started) (H : Type) (enc : TypeId × Value → H) :
    ReturnsInHanded {} Try.checked os 6 .any (Rows.fnRecordWriteLogsEveryWriteSpec.pre6 enc Try.prog Try.f6 Rows.fnRecordWriteLogsEveryWriteRow.domain false) (Rows.fnRecordWriteLogsEveryWriteSpec.post enc Try.prog Try.f6 false true false false) := by
  refine returnsInHanded_of_change (C := Try.checked) own started (by kernel_rfl) Try.func6
    (ChangeSpec.witness6 (enc := enc) (C := Try.checked) false ⟨#[], #[.int .i64 0, .int .i64 0, .bool false, .slice none 0 0, .slice none 0 0], []⟩ 8 (by kernel_rfl) (by kernel_rfl) (by kernel_rfl) (by kernel_rfl)) ?_
  intro W base args ds gs before hval0 hW hcnd _
  have hval : ∀ (j : Nat) t v, Try.f6.params[j]? = some t → args[j]? = some v → Value.okWide Try.prog W .any base t v := hval0
  have hW' := hW
  obtain ⟨p, q, hA0, hV, rfl, hfz, hnd⟩ := hW
  have hA : DataW.TrodAll enc Try.prog W 0 (fun _ => true) true Try.f6.params.toList args.toList ds p := hA0
  rw [Try.params6] at hA hval
  obtain ⟨v0, vs0, d0, ds0, p0, q0, hargs, rfl, rfl, h0, r0⟩ := trodAll_cons hA
  obtain ⟨v1, vs1, d1, ds1, p1, q1, rfl, rfl, rfl, h1, r1⟩ := trodAll_cons r0
  obtain ⟨v2, vs2, d2, ds2, p2, q2, rfl, rfl, rfl, h2, r2⟩ := trodAll_cons r1
  obtain ⟨v3, vs3, d3, ds3, p3, q3, rfl, rfl, rfl, h3, r3⟩ := trodAll_cons r2
  obtain ⟨v4, vs4, d4, ds4, p4, q4, rfl, rfl, rfl, h4, r4⟩ := trodAll_cons r3
  obtain ⟨rfl, rfl, rfl⟩ := trodAll_nil r4
  obtain rfl : args = #[v0, v1, v2, v3, v4] := by cases args; simp_all
  obtain ⟨rfl, rfl⟩ := trodVars_none hV
  obtain ⟨a0, rfl, rfl, rfl, w0⟩ := open_int Try.underlying2 (hval 0 2 v0 rfl rfl) h0
  obtain ⟨a1, rfl, rfl, rfl, w1⟩ := open_int Try.underlying2 (hval 1 2 v1 rfl rfl) h1
  obtain ⟨a2, rfl, rfl, rfl⟩ := open_bool Try.underlying4 (hval 2 4 v2 rfl rfl) h2
  obtain ⟨a3, len3, cap3, rfl⟩ := okWide_slice Try.underlying47 (hval 3 47 v3 rfl rfl)
  have k3 := h3
  have lt3 : ∀ x ∈ p3, x.block < W.heap.size := by obtain ⟨m, hm⟩ := k3; exact DataW.trod_lt m _ _ _ hm
  obtain ⟨a4, len4, cap4, rfl⟩ := okWide_slice Try.underlying48 (hval 4 48 v4 rfl rfl)
  have k4 := h4
  have lt4 : ∀ x ∈ p4, x.block < W.heap.size := by obtain ⟨m, hm⟩ := k4; exact DataW.trod_lt m _ _ _ hm
  obtain ⟨e3, l3, w3⟩ : (a3 = none → len3 = 0 ∧ cap3 = 0) ∧ ∃ l, HasA W a3 len3 l := by
    obtain ⟨fuel, hf⟩ := h3
    exact open_accs (by simpa [Value.cells] using hf)
  obtain ⟨e4, l4, w4⟩ : (a4 = none → len4 = 0 ∧ cap4 = 0) ∧ ∃ l, HasC W a4 len4 l := by
    obtain ⟨fuel, hf⟩ := h4
    exact open_wcs (by simpa [Value.cells] using hf)
  clear hA0 hval0
  refine (walk a0 a1 a2 a3 len3 cap3 a4 len4 cap4 l3 l4 W w3 e3 w4).mono fun e W' ⟨he, bel⟩ => ?_
  subst he
  exact ⟨_, rfl, _, _, _, [], _, [], hW', trodAll_mk1 (shut_bool Try.underlying4 _), (trodAll_cons_mk (shut_int Try.underlying2 w0) (trodAll_cons_mk (shut_int Try.underlying2 w1) (trodAll_cons_mk (shut_bool Try.underlying4 _) (trodAll_cons_mk (Below.trod laidOut (by kernel_rfl) (of_decide_eq_true (by kernel_rfl)) k3 bel lt3) (trodAll_cons_mk (Below.trod laidOut (by kernel_rfl) (of_decide_eq_true (by kernel_rfl)) k4 bel lt4) trodAll_mk0))))), rfl, bel.frame _, fun h => by cases h⟩

theorem over : Rows.fnRecordWriteLogsEveryWriteRow.holds Try.pinned (OpenSpec.ofChange Rows.fnRecordWriteLogsEveryWriteSpec) :=
  OpenClaim.holds_of_wide 6 Try.f6 rfl rfl rfl rfl rfl rfl rfl ⟨rfl, rfl, rfl, rfl, rfl⟩ rfl rfl rfl rfl rfl (by kernel_rfl) Try.func6 (by kernel_rfl)
    (of_decide_eq_true (by kernel_rfl)) (by unfold Func.isWrapper; first | (rw [if_pos (by decide +kernel)]; kernel_rfl) | (rw [if_neg (by decide +kernel)]; exact ⟨rfl, rfl⟩))
    (fun os started H enc _ => lifted os started H enc)

/-- THE STATEMENT -/
theorem proved : Rows.FnRecordWriteLogsEveryWriteSaid := over
end Go.Proofs.Qxb6615561a.fnRecordWriteLogsEveryWrite
