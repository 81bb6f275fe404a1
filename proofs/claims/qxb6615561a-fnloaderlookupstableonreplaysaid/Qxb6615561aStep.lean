/-
  ZZlookUp: one step of a script; the numbers that a script answers.
-/
import Derived.Test.Qxb6615561aLookN
import Derived.Test.Qxb6615561aModelW
import Derived.Test.Qxb6615561aKept
namespace Go.Proofs.Qxb6615561a
open Go.ChangeShapes Go.WideShapes Go.ChangeAt Go.RowKit

/-- The key that an id tells. -/
def keyV (p : Int × Int) : Value := .int .i32 (p.1 / 2)

theorem keyV_id (x : Lc) : keyV x.id = .int .i32 x.key := by
  unfold keyV Lc.id idOf wordOf
  congr 1
  show (if x.none then x.key * 2 + 1 else x.key * 2) / 2 = x.key
  split <;> omega

theorem step_old (B l s r p m : Nat) (T : List (Int × Int)) (kv mv : Value) (x : Lc) (w : World) (h : Core w B l s r p m T kv mv) (hx : x.Ok) (hin : x.id ∈ T) :
    Calls Try.prog 11 #[.pointer (some ⟨l, 0, none⟩), .int .i32 x.key, .int .i64 x.v, .bool x.none] w fun e w' => e = .returned (.int .i32 (T.idxOf x.id)) ∧ w.grownBy w' none := by
  have H : Hid _ := h
  clear h
  have HI : Hid (x.id ∈ T) := hin
  clear hin
  go_enter Try.func11, Try.ntmps11
  go_wp2_with fail
  refine (look_old B l s r p m T kv mv x.key x.v x.none w H.out hx.1.1 hx.1.2 hx.2.1 hx.2.2 HI.out).mono ?_
  rintro e w' ⟨rfl, hg⟩
  have HG : Hid _ := hg
  clear hg
  go_wp2_with fail
  go_ret
  exact ⟨rfl, HG.out⟩

theorem step_new (B l s r p m : Nat) (T : List (Int × Int)) (ks ms : List Value) (kv mv : Value) (x : Lc) (w : World) (h : Lo w B l s r p m T ks ms kv mv) (hT : T.length ≤ 4096) (hx : x.Ok) (hin : x.id ∉ T) :
    Calls Try.prog 11 #[.pointer (some ⟨l, 0, none⟩), .int .i32 x.key, .int .i64 x.v, .bool x.none] w fun e w' => e = .returned (.int .i32 T.length) ∧
      ∃ kv' mv' a b, Moves B s p m w w' kv mv kv' mv' ∧ Lo w' B l s r p m (T ++ [x.id]) (ks ++ [.int .i32 x.key]) (ms ++ [.int .u64 a, .int .u64 b]) kv' mv' := by
  have H : Hid _ := h
  clear h
  have HI : Hid (x.id ∉ T) := hin
  clear hin
  go_enter Try.func11, Try.ntmps11
  go_wp2_with fail
  refine (look_new B l s r p m T ks ms kv mv x.key x.v x.none w H.out hT hx.1.1 hx.1.2 hx.2.1 hx.2.2 HI.out).mono ?_
  rintro e w' ⟨rfl, kv', mv', a, b, hg, hl⟩
  have HG : Hid (Moves B s p m w w' kv mv kv' mv') := hg
  have HL : Hid (Lo w' B l s r p m (T ++ [x.id]) (ks ++ [.int .i32 x.key]) (ms ++ [.int .u64 a, .int .u64 b]) kv' mv') := hl
  clear hg hl
  go_wp2_with fail
  go_ret
  exact ⟨rfl, _, _, _, _, HG.out, HL.out⟩

theorem step_any (B l s r p m : Nat) (T : List (Int × Int)) (ms : List Value) (kv mv : Value) (x : Lc) (w : World) (h : Lo w B l s r p m T (T.map keyV) ms kv mv) (hU : AllU ms) (hT : T.length ≤ 4096) (hx : x.Ok) :
    Calls Try.prog 11 #[.pointer (some ⟨l, 0, none⟩), .int .i32 x.key, .int .i64 x.v, .bool x.none] w fun e w' => ∃ ms' kv' mv', e = .returned (.int .i32 ((addId T x).idxOf x.id)) ∧ Moves B s p m w w' kv mv kv' mv' ∧
      Lo w' B l s r p m (addId T x) ((addId T x).map keyV) ms' kv' mv' ∧ AllU ms' := by
  by_cases hin : x.id ∈ T
  · refine (step_old B l s r p m T kv mv x w h.core hx hin).mono ?_
    rintro e w' ⟨rfl, hg⟩
    have e : addId T x = T := by unfold addId; rw [if_pos hin]
    rw [e]
    refine ⟨ms, kv, mv, rfl, (Moves.refl _ _ _ _ _ _ _).grown hg (.inl rfl) ?_ (by simp), ⟨h.core.kept hg (by simp), row_kept h.keys hg (by simp), row_kept h.marks hg (by simp)⟩, hU⟩
    have := h.core.base; have := h.core.lts; omega
  · refine (step_new B l s r p m T _ ms kv mv x w h hT hx hin).mono ?_
    rintro e w' ⟨rfl, kv', mv', a, b, hg, hl⟩
    have e : addId T x = T ++ [x.id] := by unfold addId; rw [if_neg hin]
    rw [e]
    refine ⟨_, kv', mv', ?_, hg, ?_, hU.app a b⟩
    · rw [List.idxOf_append, if_neg hin]; simp
    · rw [List.map_append, List.map_cons, List.map_nil, keyV_id]; exact hl

theorem tabOf_pre (l : List Lc) (k : Nat) : tabOf (l.take k) <+: tabOf l := by
  have key : ∀ (l : List Lc) (T : List (Int × Int)), T <+: l.foldl addId T := by
    intro l
    induction l with
    | nil => intro T; exact List.prefix_rfl
    | cons x l ih =>
      intro T
      rw [List.foldl_cons]
      refine List.IsPrefix.trans ?_ (ih _)
      unfold addId
      split
      · exact List.prefix_rfl
      · exact List.prefix_append _ _
  have e : tabOf l = (l.drop k).foldl addId (tabOf (l.take k)) := by
    unfold tabOf
    rw [← List.foldl_append, List.take_append_drop]
  rw [e]
  exact key _ _

/-- The number that call k answers. -/
def numOf (l : List Lc) (k : Nat) : Int := ((tabOf l).idxOf (l.getD k lc0).id : Nat)

theorem numOf_step (l : List Lc) (k : Nat) (hk : k < l.length) : (((addId (tabOf (l.take k)) (l.getD k lc0)).idxOf (l.getD k lc0).id : Nat) : Int) = numOf l k := by
  rw [← tabOf_take l k hk]
  unfold numOf
  obtain ⟨S, hS⟩ := tabOf_pre l (k + 1)
  rw [← hS, List.idxOf_append, if_pos (mem_take (Nat.lt_succ_self k) (by omega))]

theorem num_mem (l : List Lc) (k : Nat) (hk : k < l.length) : (l.getD k lc0).id ∈ tabOf l := by
  rw [mem_tabOf]
  exact ⟨l.getD k lc0, by simp [hk], rfl⟩

theorem numOf_lt (l : List Lc) (k : Nat) (hk : k < l.length) : 0 ≤ numOf l k ∧ numOf l k < (tabOf l).length := by
  unfold numOf
  have := List.idxOf_lt_length_of_mem (num_mem l k hk)
  omega

theorem key_at (l : List Lc) (k : Nat) (hk : k < l.length) : ((tabOf l).map keyV)[(numOf l k).toNat]? = some (.int .i32 (l.getD k lc0).key) := by
  have h := List.idxOf_lt_length_of_mem (num_mem l k hk)
  have e : (numOf l k).toNat = (tabOf l).idxOf (l.getD k lc0).id := by unfold numOf; simp
  rw [e, List.getElem?_map, List.getElem?_eq_getElem h, Option.map_some, List.getElem_idxOf h, keyV_id]
end Go.Proofs.Qxb6615561a
