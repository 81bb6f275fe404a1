/-
  The walk in a frame of the ordinary kind: there a select of one send case with a default may be met.
-/
import Derived.Conc.LoneSelect
import Derived.WalkKit
import Derived.Defers
namespace Go.Proofs.Qxb6615600a
open Go Go.Conc Go.RowKit

/-- Code.wp, asked of ordinary frames alone. -/
def wpN (P : Program) (c : Code) (Q : Exit → Act → World → Prop) (a : Act) (w : World) : Prop :=
  ∀ (b : Frame) (k : List Item) (cs : List Frame), b.kind = .normal → ∃ e a' w', Q e a' w' ∧ Arrives P (lone (b.at a (.code c :: k)) cs w) b k cs e a' w'

section
variable {P : Program} {Q : Exit → Act → World → Prop} {a : Act} {w : World}

theorem wpN_of_wp {c : Code} (h : c.wp P Q a w) : wpN P c Q a w := fun b k cs _ => h b k cs

theorem wpN_seqN {x y : Code} (h : ∀ K : Act → World → Prop, (∀ a w, wpN P y Q a w → K a w) → wpN P x (Exit.then K Q) a w) : wpN P (Code.seq x y) Q a w := by
  intro b k cs hk
  obtain ⟨e, a₁, w₁, hq, harr⟩ := h (wpN P y Q) (fun _ _ h => h) b (.code y :: k) cs hk
  have skip : e ≠ .normal → Arrives P (lone (b.at a (.code (Code.seq x y) :: k)) cs w) b k cs e a₁ w₁ := fun he =>
    .of_steps (.one step_seq) (.pass (x := .code y) rfl (fun _ _ => .inl he) harr)
  cases e with
  | normal =>
    obtain ⟨e₂, a₂, w₂, hq₂, harr₂⟩ := hq b k cs hk
    exact ⟨e₂, a₂, w₂, hq₂, .of_steps (.head step_seq harr) harr₂⟩
  | exit id => exact ⟨_, a₁, w₁, hq, skip (by simp)⟩
  | goto l => exact ⟨_, a₁, w₁, hq, skip (by simp)⟩
  | ret => exact ⟨_, a₁, w₁, hq, skip (by simp)⟩
  | panic ch => exact ⟨_, a₁, w₁, hq, skip (by simp)⟩
  | outgrown => exact ⟨_, a₁, w₁, hq, skip (by simp)⟩

theorem wpN_seq {x y : Code} (h : ∀ K : Act → World → Prop, (∀ a w, wpN P y Q a w → K a w) → x.wp P (Exit.then K Q) a w) : wpN P (Code.seq x y) Q a w :=
  wpN_seqN fun K hK => wpN_of_wp (h K hK)

theorem wpN_cond {c : Operand} {x y : Code} {t : Bool} (hc : a.eval c = .bool t) (h : wpN P (if t then x else y) Q a w) : wpN P (Code.cond c x y) Q a w :=
  fun b k cs hk => let ⟨e, a', w', q, r⟩ := h b k cs hk; ⟨e, a', w', q, .of_steps (.one (step_cond hc)) r⟩

theorem calls_of_wpN {f : FuncId} {fn : Func} {c : Code} {args : Array Value} {R : Ending → World → Prop} (hf : P.funcs[f]? = some fn) (hb : fn.body = some c)
    (h : wpN P c (bodyPostD P fn R) { tmps := args ++ Array.replicate (fn.ntmps - args.size) undef, defers := [] } w) : Calls P f args w R := by
  intro cs
  obtain ⟨e, a', w', hq, harr⟩ := h { (default : Frame) with fn := f, kind := .normal } [] cs rfl
  rw [← show Frame.enter P f args .normal = Frame.at { (default : Frame) with fn := f, kind := .normal } { tmps := args ++ Array.replicate (fn.ntmps - args.size) undef, defers := [] } [.code c] from by simp [Frame.enter, Frame.at, hf, hb]] at harr
  have go : ∀ (u : FrameMode) (todo : List Item), Leaves P fn a'.tmps R a'.defers u w' → Steps P (lone (Frame.enter P f args .normal) cs w) (lone { Frame.at { (default : Frame) with fn := f, kind := .normal } a' todo with mode := u } cs w') →
      ∃ e w' fr, R e w' ∧ Comes P (lone (Frame.enter P f args .normal) cs w) (lone fr cs w') e ∧ fr.fn = f ∧ fr.leaving P w' e := by
    intro u todo hl hs
    obtain ⟨e', w'', fr', hR, hs', hfn, hl'⟩ := leaves_steps a'.defers u w' { Frame.at { (default : Frame) with fn := f, kind := .normal } a' todo with mode := u } cs rfl rfl rfl hf rfl hl
    exact ⟨e', w'', fr', hR, Comes.of_steps hs hs', hfn, hl'⟩
  cases e with
  | normal => exact go .returning [] hq (Steps.trans harr (.one step_end))
  | ret => obtain ⟨todo, hs⟩ := harr; exact go .returning todo hq hs
  | panic chain => obtain ⟨todo, hs⟩ := harr; exact go (.panicking chain) todo hq hs
  | exit id => exact hq.elim
  | goto l => exact hq.elim
  | outgrown => exact ⟨.outgrown, w', { (default : Frame) with fn := f }, hq, harr.resolve_left (by simp), rfl, trivial⟩

/-- A plain region whose first operation is a communication that the machine carries out in one step. -/
theorem wpN_comm {id : Nat} {o : Oper} {rest : List Oper} {v : Value} {w' : World}
    (hstep : ∀ (b : Frame) (k : List Item) (cs : List Frame), b.kind = .normal →
      step P (solo (G (b.at a (.inRegion (o :: rest).toArray (0 :: List.range' 1 rest.length) :: k)) cs) w) =
        .next (solo (G ((b.at a (.inRegion (o :: rest).toArray (0 :: List.range' 1 rest.length) :: k)).finish v) cs) w'))
    (h : wpList P (o :: rest).toArray Q rest (a.put o.dst v) w') : wpN P (Code.region id (o :: rest).toArray false) Q a w := by
  intro b k cs hk
  have h' : wpOps P (o :: rest).toArray Q (List.range' 1 rest.length) (a.put o.dst v) w' := by
    rw [wpOps_eq_wpList rest 1 (fun j => by rw [Nat.add_comm]; simp)]; exact h
  obtain ⟨e, a', w'', q, arr⟩ := wp_ops _ _ _ h' b k cs
  refine ⟨e, a', w'', q, .of_steps (.head step_region ?_) arr⟩
  have e0 : List.range (o :: rest).toArray.size = 0 :: List.range' 1 rest.length := by
    rw [List.range_eq_range']; simp [List.range'_succ]
  rw [e0]
  have h2 := hstep b k cs hk
  rw [Frame.finish_at] at h2
  refine .one ?_
  rw [lone_eq_solo, lone_eq_solo]
  simpa using h2

theorem wpN_select_room {id : Nat} {o : Oper} {rest : List Oper} (hg : o.guard = none) {c cap s r : Nat} {v z : Value} {buf : Array Value} {tm : Bool} (hr : (execOp a.eval o).run P w = .ok (.comm #[scase c v z] false .select) w)
    (hc : w.heap[c]? = some (.chan cap buf false s r tm)) (hroom : buf.size < cap) (h : wpList P (o :: rest).toArray Q rest (a.put o.dst (.tuple #[goInt 0, .bool false])) (w.setChan c cap (buf.push v) false (s + 1) r tm)) :
    wpN P (Code.region id (o :: rest).toArray false) Q a w :=
  wpN_comm (fun b k cs hk => step_lone_select_send_room (stepG_comm (o := o) (by simp) (by simp [Region.wanted, hg]) (by rw [hk]; decide) hr) hc hroom) h

theorem wpN_select_full {id : Nat} {o : Oper} {rest : List Oper} (hg : o.guard = none) {c cap s r : Nat} {v z : Value} {buf : Array Value} {tm : Bool} (hr : (execOp a.eval o).run P w = .ok (.comm #[scase c v z] false .select) w)
    (hc : w.heap[c]? = some (.chan cap buf false s r tm)) (hfull : cap ≤ buf.size) (h : wpList P (o :: rest).toArray Q rest (a.put o.dst (.tuple #[goInt (-1), .bool false])) w) :
    wpN P (Code.region id (o :: rest).toArray false) Q a w :=
  wpN_comm (fun b k cs hk => step_lone_select_send_full (stepG_comm (o := o) (by simp) (by simp [Region.wanted, hg]) (by rw [hk]; decide) hr) hc hfull) h

end
end Go.Proofs.Qxb6615600a
