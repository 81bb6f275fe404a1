/-
  lookUp.
-/
import Derived.Test.Qxb6615561aLoad
import Derived.Deep.DeepCutAuto
namespace Go.Proofs.Qxb6615561a
open Go.ChangeShapes Go.WideShapes Go.ChangeAt Go.RowKit

theorem or_one (key : Int) (h1 : -2147483648 ≤ key) (h2 : key ≤ 2147483647) : bits .or .i64 (key * 2) 1 = key * 2 + 1 := by
  have e : BitVec.ofInt 64 (key * 2) ||| BitVec.ofInt 64 1 = BitVec.ofInt 64 (key * 2 + 1) := by
    have h : BitVec.ofInt 64 (key * 2) &&& BitVec.ofInt 64 1 = 0#64 := by
      apply BitVec.eq_of_toNat_eq
      have o : (BitVec.ofInt 64 1).toNat = 1 := by decide
      rw [BitVec.toNat_and, o, Nat.and_one_is_mod, BitVec.toNat_ofInt]
      simp; omega
    rw [← BitVec.add_eq_or_of_and_eq_zero _ _ h, BitVec.ofInt_add]
  show IntKind.i64.wrap ((BitVec.ofInt 64 (key * 2) ||| BitVec.ofInt 64 1).toNat : Int) = _
  rw [e, BitVec.toNat_ofInt]
  simp [IntKind.wrap, IntKind.bits, IntKind.signed]
  split <;> omega

/-- The first word of a call's id. -/
def wordOf (key : Int) (nn : Bool) : Int := if nn then key * 2 + 1 else key * 2

/-- The id of a call. -/
def idOf (key v : Int) (nn : Bool) : Int × Int := (wordOf key nn, v)

theorem idOf_inj {k v k' v' : Int} {b b' : Bool} (h : idOf k v b = idOf k' v' b') : k = k' ∧ v = v' ∧ b = b' := by
  unfold idOf wordOf at h
  cases b <;> cases b' <;> simp at h <;> simp <;> omega

theorem idOk (key v : Int) (nn : Bool) (h1 : -2147483648 ≤ key) (h2 : key ≤ 2147483647) (h3 : -9223372036854775808 ≤ v) (h4 : v ≤ 9223372036854775807) : IdOk (idOf key v nn) := by
  unfold idOf wordOf
  refine idOk_of ?_ ?_ h3 h4
  all_goals (cases nn <;> simp <;> omega)

/-- The variable that holds an id. -/
def idIs (w : World) (q : Nat) (a b : Int) : Prop := w.heap[q]? = some (.cells #[.int .i64 a, .int .i64 b] 102 (0, 0))

theorem idIs.of {w w' : World} {q : Nat} {a b : Int} (h : idIs w q a b) (hb : w'.heap[q]? = w.heap[q]?) : idIs w' q a b := hb.trans h
theorem idIs.cell {w : World} {q : Nat} {a b : Int} (h : idIs w q a b) : w.cell? ⟨q, 0, none⟩ = some (.int .i64 a) ∧ w.cell? ⟨q, 1, none⟩ = some (.int .i64 b) := by
  refine ⟨?_, ?_⟩
  all_goals rw [cell_of_row w q _ _ _ _ h]; rfl

theorem Core.apart {w : World} {B l s r p m : Nat} {T : List (Int × Int)} {kv mv : Value} (h : Core w B l s r p m T kv mv) : l ≠ s ∧ l ≠ r ∧ l ≠ p ∧ l ≠ m ∧ s ≠ r ∧ s ≠ p ∧ s ≠ m ∧ r ≠ p ∧ r ≠ m ∧ p ≠ m := by
  obtain ⟨h1, ⟨⟨hi, lo, _, _, h2⟩, h3⟩, h4, h5, _⟩ := h
  obtain ⟨es, ck, h4⟩ := h4.map
  unfold lodIs at h1; unfold pcgIs at h2; unfold randIs at h3; unfold seaIs at h5
  refine ⟨?_, ?_, ?_, ?_, ?_, ?_, ?_, ?_, ?_, ?_⟩ <;> (intro e; subst e; simp_all)

theorem Core.lts {w : World} {B l s r p m : Nat} {T : List (Int × Int)} {kv mv : Value} (h : Core w B l s r p m T kv mv) : l < w.heap.size ∧ s < w.heap.size ∧ r < w.heap.size ∧ p < w.heap.size ∧ m < w.heap.size :=
  ⟨lt_of_block h.lod, lt_of_block h.sea, h.gen.lt.1, h.gen.lt.2, h.tab.lt⟩

/-- A row is none of the loader's blocks. -/
theorem Core.far {w : World} {B l s r p m : Nat} {T : List (Int × Int)} {kv mv : Value} (h : Core w B l s r p m T kv mv) {e sz n : Nat} {v : Value} {xs : List Value} (ho : w.ownsRow B e sz v n xs) (he : e = 21 ∨ e = 36) {g : Nat} (hg : v.ownBlock = some g) :
    g ≠ l ∧ g ≠ s ∧ g ≠ r ∧ g ≠ p ∧ g ≠ m := by
  rcases ho.2 with ⟨rfl, _⟩ | ⟨g', cap, cur, rfl, _, hc, _⟩
  · cases hg
  · simp only [Value.ownBlock, Option.some.injEq] at hg
    subst hg
    obtain ⟨h1, ⟨⟨hi, lo, _, _, h2⟩, h3⟩, h4, h5, _⟩ := h
    obtain ⟨es, ck, h4⟩ := h4.map
    unfold lodIs at h1; unfold pcgIs at h2; unfold randIs at h3; unfold seaIs at h5
    refine ⟨?_, ?_, ?_, ?_, ?_⟩ <;> (intro e; subst e; rcases he with rfl | rfl <;> simp_all)

theorem Core.kept {w w' : World} {B l s r p m : Nat} {T : List (Int × Int)} {kv mv : Value} (h : Core w B l s r p m T kv mv) {row : Option Nat} (hg : w.grownBy w' row) (hr : ∀ g, row = some g → g ≠ l ∧ g ≠ s ∧ g ≠ r ∧ g ≠ p ∧ g ≠ m) : Core w' B l s r p m T kv mv := by
  obtain ⟨a1, a2, a3, a4, a5⟩ := h.lts
  refine ⟨h.lod.of (hg.block _ a1 fun e => (hr _ e.symm).1 rfl), h.gen.of (hg.block _ a3 fun e => (hr _ e.symm).2.2.1 rfl) (hg.block _ a4 fun e => (hr _ e.symm).2.2.2.1 rfl), h.tab.of (hg.block _ a5 fun e => (hr _ e.symm).2.2.2.2 rfl), h.sea.of (hg.block _ a2 fun e => (hr _ e.symm).2.1 rfl), h.base⟩

theorem row_form {w : World} {B e sz n : Nat} {v : Value} {xs : List Value} (h : w.ownsRow B e sz v n xs) : ∃ a c, v = .slice a n c := by
  rcases h.2 with ⟨rfl, rfl⟩ | ⟨g, cap, cur, rfl, _⟩
  · exact ⟨_, _, rfl⟩
  · exact ⟨_, _, rfl⟩

theorem row_kept {w w' : World} {B e sz n : Nat} {v : Value} {xs : List Value} (h : w.ownsRow B e sz v n xs) {row : Option Nat} (hg : w.grownBy w' row) (hr : ∀ g, row = some g → v.ownBlock ≠ some g) : w'.ownsRow B e sz v n xs :=
  ownsRow_of h fun g hgg => hg.block g (ownBlock_lt h hgg).2 fun e => hr g e.symm hgg

set_option maxRecDepth 100000 in
set_option maxHeartbeats 1000000 in
theorem look_old (B l s r p m : Nat) (T : List (Int × Int)) (kv mv : Value) (key v : Int) (nn : Bool) (w : World) (h : Core w B l s r p m T kv mv) (h1 : -2147483648 ≤ key) (h2 : key ≤ 2147483647) (h3 : -9223372036854775808 ≤ v) (h4 : v ≤ 9223372036854775807) (hin : idOf key v nn ∈ T) :
    Calls Try.prog 38 #[.pointer (some ⟨l, 0, none⟩), .int .i32 key, .int .i64 v, .bool nn] w fun e w' => e = .returned (.int .i32 (T.idxOf (idOf key v nn))) ∧ w.grownBy w' none := by
  have hor := or_one key h1 h2
  have HC : Hid (Core w B l s r p m T kv mv) := h
  have HK : Hid (IdOk (idOf key v nn)) := idOk key v nn h1 h2 h3 h4
  have HI : Hid (idOf key v nn ∈ T) := hin
  clear h hin
  go_enter Try.func38, Try.ntmps38
  go_upto_if 17 with fail
  go_cut [] (fun wx => idIs wx w.heap.size (wordOf key nn) v ∧ w.grownBy wx none)
  case first =>
    cases nn
    · go_wp2
      go_meet
      exact ⟨Deep.blk_alloc_new _ _, World.grownBy_alloc _ _ _⟩
    · go_wp2
      go_meet
      exact ⟨Deep.blk_alloc_new _ _, World.grownBy_alloc _ _ _⟩
  case rest =>
    obtain ⟨hid, hgr⟩ := hcut
    have HG : Hid (w.grownBy wc none) := hgr
    have HC1 : Core wc B l s r p m T kv mv := HC.out.kept hgr (by simp)
    obtain ⟨_, _, c3⟩ := HC1.lod.cell
    obtain ⟨d0, d1⟩ := hid.cell
    have hlk : ∀ k, (Instr.lookup 82 (.map (some m)) (.agg #[.int .i64 (wordOf key nn), .int .i64 v]) true).run Try.prog (wc.drewN k) = .ok (.tuple #[.int .i32 (T.idxOf (idOf key v nn)), .bool true]) (wc.drewN k) := fun k => (HC1.tab.of (w' := wc.drewN k) rfl).look HK.out HI.out
    clear hgr hid HC1
    generalize w.heap.size = q at *
    generalize wordOf key nn = a at *
    go_wp2
    go_quiet (fail)
    go_wp2
    go_ret
    exact ⟨rfl, HG.out.trans ⟨rfl, rfl, rfl, Nat.le_refl _, fun _ _ _ => rfl⟩⟩
end Go.Proofs.Qxb6615561a
