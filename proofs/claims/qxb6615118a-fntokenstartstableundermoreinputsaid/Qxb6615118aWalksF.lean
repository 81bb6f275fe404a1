/-
  For the second law: make with room, append from a clone, the size look.
-/
import Derived.Test.Qxb6615118aWalksE
import Derived.Laws.OwnMore
namespace Go.Proofs.Qxb6615118a
open Go.ChangeShapes Go.WideShapes Go.ChangeAt Go.RowKit
open Plain

theorem info5' : ∃ i, Try.prog.info? 5 = some i ∧ i.zero = some (.int .u8 0) ∧ i.size = 1 ∧ i.bytes = 1 := by
  obtain ⟨i, hi, hx⟩ := Option.map_eq_some_iff.1 Try.info5
  simp only [Prod.mk.injEq] at hx
  exact ⟨i, hi, hx.1, hx.2.1, hx.2.2⟩

theorem run_room (t : Nat) (x : Int) (hx : x = t) (ht : t ≤ 1048576) (w : World) :
    (Instr.makeSlice 22 (.int .i64 0) (.int .i64 x)).run Try.prog w = .ok (.slice (some ⟨w.heap.size, 0, none⟩) 0 t) (w.alloc (.cells (madeCells #[.int .u8 0] t) 5)) := by
  subst hx
  obtain ⟨i, hi, hz, hs, hb⟩ := info5'
  have h := run_make (P := Try.prog) w 22 5 i (.int .u8 0) Try.underlying22 hi hz .i64 .i64 0 t (by omega) (by omega) (by rw [hb]; omega) (by omega)
  rw [hs] at h
  simpa [Value.cells] using h

theorem owns_room (w : World) (t : Nat) (ht : t ≤ 1048576) : (w.alloc (.cells (madeCells #[.int .u8 0] t) 5)).ownsRow w.heap.size 5 1 (.slice (some ⟨w.heap.size, 0, none⟩) 0 t) 0 [] :=
  ⟨by simp, .inr ⟨w.heap.size, t, _, rfl, Nat.le_refl _, Deep.blk_alloc_new _ _, Nat.zero_le _, by unfold maxLen; omega, by simp [size_madeCells], by simp⟩⟩

theorem run_onto (w : World) (base g n cap : Nat) (xs : List Value) (hown : w.ownsRow base 5 1 (.slice (some ⟨g, 0, none⟩) n cap) n xs) (a : Option Addr) (m : Nat) (zs : List Int) (hz : Has w a m zs) (hroom : n + m ≤ cap) :
    ∃ w', (Builtin.append_ #[22, 22] 22 #[.slice (some ⟨g, 0, none⟩) n cap, .slice a m m]).run Try.prog w = .ok (.slice (some ⟨g, 0, none⟩) (n + m) cap) w' ∧
      w'.ownsRow base 5 1 (.slice (some ⟨g, 0, none⟩) (n + m) cap) (n + m) (xs ++ zs.map (Value.int .u8)) ∧ w.grownBy w' (some g) := by
  obtain ⟨i, hi, hzz, hs, hb⟩ := info5'
  cases a with
  | none =>
    have hm : m = 0 := by
      by_cases h : m = 0
      · exact h
      · obtain ⟨_, _, h, _⟩ := hz.at' h; cases h
    subst hm
    have e : zs = [] := List.eq_nil_of_length_eq_zero hz.len
    subst e
    refine ⟨w, run_append_owned_none (P := Try.prog) w base 22 22 5 i 1 Try.underlying22 hi _ n xs hown, by simpa using hown, ⟨rfl, rfl, rfl, Nat.le_refl _, fun _ _ _ => rfl⟩⟩
  | some x =>
    refine run_append_fits (P := Try.prog) w base 22 22 5 i 1 Try.underlying22 hi hs g n cap xs hown x m m (zs.map (Value.int .u8)) (by simp [hz.len]) (fun j v hv => ?_) (fun v hv => ?_) hroom
    · have hj : j < zs.length := by
        have := (List.getElem?_eq_some_iff.1 hv).1; simpa using this
      obtain ⟨b, off, hx, _, hc⟩ := hz.at' (by have := hz.len; omega)
      obtain rfl := Option.some.inj hx
      rw [getD_map zs j hj] at hv
      rw [add_plain, ← hv]
      exact hc j (by have := hz.len; omega)
    · obtain ⟨z, _, rfl⟩ := List.mem_map.1 hv
      rfl

theorem Has.grown {w w' : World} {a : Option Addr} {n : Nat} {zs : List Int} {g : Nat} (h : Has w a n zs) (hg : w.grownBy w' (some g)) (hne : ∀ b off, a = some ⟨b, off, none⟩ → b ≠ g) : Has w' a n zs := by
  refine ⟨h.len, fun hn => ?_⟩
  obtain ⟨b, off, ha, hlt, hc⟩ := h.at' hn
  exact ⟨b, off, ha, Nat.lt_of_lt_of_le hlt hg.size, fun i hi => by rw [World.cell?_of_block (w := w) (hg.block b hlt (by intro e; exact hne b off ha (Option.some.inj e)))]; exact hc i hi⟩

theorem Has.grown' {w w' : World} {a : Option Addr} {n : Nat} {zs : List Int} {g : Nat} (h : Has w a n zs) (hg : w.grownBy w' (some g)) (hne : n ≠ 0 → ∃ b off, a = some ⟨b, off, none⟩ ∧ b ≠ g) : Has w' a n zs := by
  by_cases hn : n = 0
  · exact ⟨h.len, fun h => absurd hn h⟩
  · obtain ⟨b, off, ha, hb⟩ := hne hn
    refine h.grown hg fun b' off' h' => ?_
    rw [ha] at h'; cases h'; exact hb

theorem Has.owned {w : World} {base g n cap : Nat} {zs : List Int} (h : w.ownsRow base 5 1 (.slice (some ⟨g, 0, none⟩) n cap) n (zs.map (Value.int .u8))) : Has w (some ⟨g, 0, none⟩) n zs := by
  have hl : zs.length = n := by have := h.1; simpa using this
  have hcell : ∀ i, i < n → w.cell? ⟨g, 0 + i, none⟩ = some (.int .u8 (zs.getD i 0)) := fun i hi => by
    rw [Nat.zero_add, h.cellAt i (by omega)]
    exact getD_map zs i (by omega)
  exact ⟨hl, fun hn => ⟨g, 0, rfl, World.block_lt_of_cell? w ⟨g, 0 + 0, none⟩ (hcell 0 (by omega)), hcell⟩⟩

/-- The operation append, where its run is known by an equation. -/
theorem wpList_append_run {P : Program} (w : World) {ops : Array Oper} {rest : List Oper} {o : Oper} {a : Act} {Q : Exit → Act → World → Prop} (hgd : o.guard = none) (d s : Operand) (t t' : TypeId)
    (ho : o.op = .call { callee := .builtin .append, args := #[d, s], argTypes := #[t, t'] }) (v u : Value) (hd : a.eval d = v) (hs : a.eval s = u) {v' : Value} {w' : World}
    (hr : (Builtin.append_ #[t, t'] o.type #[v, u]).run P w = .ok v' w') (h : wpList P ops Q rest (a.put o.dst v') w') : wpList P ops Q (o :: rest) a w := by
  refine wpList_plain hgd fun K hK => ?_
  unfold Oper.wp execOp
  simp only [ho, resolve, invoke, builtin, Sem.run_bind, Sem.run_pure, Result.andThen_ok, List.map_toArray, List.map_cons, List.map_nil, hd, hs, hr]
  exact hK _ _ h

theorem bytesB (a a' : Option Addr) (n c n' c' : Nat) (x y : Int) (w : World) (hm : n + n' ≤ 1048576) :
    Calls Try.prog 10 #[.slice a n c, .slice a' n' c', .int .i64 x, .int .i64 y] w fun e w' => e = .returned (.bool true) ∧ w' = w := by
  have h1 : n ≤ 1048576 := by omega
  have h2 : n' ≤ 1048576 := by omega
  go_enter Try.func10, Try.ntmps10
  go_wp2
  go_ret
  exact ⟨rfl, rfl⟩

theorem bytesB_no (a a' : Option Addr) (n c n' c' : Nat) (x y : Int) (w : World) (hm : 1048576 < n + n') :
    Calls Try.prog 10 #[.slice a n c, .slice a' n' c', .int .i64 x, .int .i64 y] w fun e w' => e = .returned (.bool false) ∧ w' = w := by
  by_cases h1 : n ≤ 1048576
  · by_cases h2 : n' ≤ 1048576
    · go_enter Try.func10, Try.ntmps10
      go_wp2
      go_ret
      exact ⟨rfl, rfl⟩
    · go_enter Try.func10, Try.ntmps10
      go_wp2
      go_ret
      exact ⟨rfl, rfl⟩
  · go_enter Try.func10, Try.ntmps10
    go_wp2
    go_ret
    exact ⟨rfl, rfl⟩
end Go.Proofs.Qxb6615118a
