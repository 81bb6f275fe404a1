/-
  lookUp, at an id that is new.
-/
import Derived.Test.Qxb6615561aLook
import Derived.Deep.RegionLaw
import Derived.Deep.DrawnRows
namespace Go.Proofs.Qxb6615561a
open Go.ChangeShapes Go.WideShapes Go.ChangeAt Go.RowKit

theorem Try.info21 : (Try.prog.info? 21).map (fun i => (i.zero, i.size, i.bytes)) = some (some (.int .i32 0), 1, 4) := by kernel_rfl
theorem Try.info36 : (Try.prog.info? 36).map (fun i => (i.zero, i.size, i.bytes)) = some (some (.agg #[.int .u64 0, .int .u64 0]), 2, 16) := by kernel_rfl
theorem Try.under25 : Try.prog.underlying 25 = some (.slice 21) := by kernel_rfl
theorem Try.under34 : Try.prog.underlying 34 = some (.slice 36) := by kernel_rfl

/-- A loader whose key row is one longer than its mark row. -/
structure Half (w : World) (B l s r p m : Nat) (T : List (Int × Int)) (nk nm : Nat) (ks ms : List Value) (kv mv : Value) : Prop where
  core : Core w B l s r p m T kv mv
  keys : w.ownsRow B 21 1 kv nk ks
  marks : w.ownsRow B 36 2 mv nm ms

theorem grown_drewN (w : World) (k : Nat) (x : Option Nat) : w.grownBy (w.drewN k) x := ⟨rfl, rfl, rfl, Nat.le_refl _, fun _ _ _ => rfl⟩

theorem Core.turn {w w' : World} {B l s r p m : Nat} {T T' : List (Int × Int)} {kv mv : Value} (h : Core w B l s r p m T kv mv) (hg : w.grownBy w' (some m)) (ht : Tab w' m T') : Core w' B l s r p m T' kv mv := by
  obtain ⟨a1, a2, a3, a4, a5⟩ := h.lts
  obtain ⟨n1, n2, n3, n4, n5, n6, n7, n8, n9, n10⟩ := h.apart
  exact ⟨h.lod.of (hg.block _ a1 (by simpa using n4)), h.gen.of (hg.block _ a3 (by simpa using n9)) (hg.block _ a4 (by simpa using n10)), ht, h.sea.of (hg.block _ a2 (by simpa using n7)), h.base⟩

theorem Half.kept {w w' : World} {B l s r p m nk nm : Nat} {T : List (Int × Int)} {ks ms : List Value} {kv mv : Value} (h : Half w B l s r p m T nk nm ks ms kv mv) (hg : w.grownBy w' none) : Half w' B l s r p m T nk nm ks ms kv mv :=
  ⟨h.core.kept hg (by simp), row_kept h.keys hg (by simp), row_kept h.marks hg (by simp)⟩

/-- The two rows do not share a block. -/
theorem Half.apart {w : World} {B l s r p m nk nm : Nat} {T : List (Int × Int)} {ks ms : List Value} {kv mv : Value} (h : Half w B l s r p m T nk nm ks ms kv mv) {g : Nat} (h1 : kv.ownBlock = some g) : mv.ownBlock ≠ some g := by
  intro h2
  rcases h.keys.2 with ⟨rfl, _⟩ | ⟨g1, cap1, cur1, rfl, _, hc1, _⟩
  · cases h1
  · rcases h.marks.2 with ⟨rfl, _⟩ | ⟨g2, cap2, cur2, rfl, _, hc2, _⟩
    · cases h2
    · simp only [Value.ownBlock, Option.some.injEq] at h1 h2
      subst h1; subst h2
      rw [hc1] at hc2
      simp at hc2

theorem Core.set {w : World} {B l s r p m i : Nat} {T : List (Int × Int)} {kv mv kv' mv' : Value} {u : Value} (h : Core w B l s r p m T kv mv) (hs : seaIs (w.setCell ⟨s, i, none⟩ u) s kv' mv') : Core (w.setCell ⟨s, i, none⟩ u) B l s r p m T kv' mv' := by
  obtain ⟨n1, n2, n3, n4, n5, n6, n7, n8, n9, n10⟩ := h.apart
  have hb : ∀ b, b ≠ s → (w.setCell ⟨s, i, none⟩ u).heap[b]? = w.heap[b]? := fun b hn => Deep.blk_setCell_other _ _ _ _ hn
  exact ⟨h.lod.of (hb _ n1), h.gen.of (hb _ n5.symm) (hb _ n6.symm), h.tab.of (hb _ n7.symm), hs, h.base⟩

theorem half_key {W w1 : World} {B l s r p m nk nm nk' : Nat} {T : List (Int × Int)} {ks ms ks' : List Value} {kv mv nv : Value} (h : Half W B l s r p m T nk nm ks ms kv mv) (ho : w1.ownsRow B 21 1 nv nk' ks') (hg : W.grownBy w1 kv.ownBlock) (hat : ∀ g, nv.ownBlock = some g → kv.ownBlock = some g ∨ W.heap.size ≤ g) :
    Half (w1.setCell ⟨s, 6, none⟩ nv) B l s r p m T nk' nm ks' ms nv mv := by
  have hc : Core w1 B l s r p m T kv mv := h.core.kept hg (fun g e => h.core.far h.keys (.inl rfl) e)
  have hl := h.core.lts
  refine ⟨hc.set (hc.sea.put6 nv), ownsRow_of ho fun g e => Deep.blk_setCell_other _ _ _ _ ?_, ownsRow_of (row_kept h.marks hg (fun g e => h.apart e)) fun g e => Deep.blk_setCell_other _ _ _ _ (h.core.far h.marks (.inr rfl) e).2.1⟩
  rcases hat g e with hh | hh
  · exact (h.core.far h.keys (.inl rfl) hh).2.1
  · show g ≠ s; omega

theorem half_mark {W w1 : World} {B l s r p m nk nm nm' : Nat} {T : List (Int × Int)} {ks ms ms' : List Value} {kv mv nv : Value} (h : Half W B l s r p m T nk nm ks ms kv mv) (ho : w1.ownsRow B 36 2 nv nm' ms') (hg : W.grownBy w1 mv.ownBlock) (hat : ∀ g, nv.ownBlock = some g → mv.ownBlock = some g ∨ W.heap.size ≤ g) :
    Half (w1.setCell ⟨s, 7, none⟩ nv) B l s r p m T nk nm' ks ms' kv nv := by
  have hc : Core w1 B l s r p m T kv mv := h.core.kept hg (fun g e => h.core.far h.marks (.inr rfl) e)
  have hl := h.core.lts
  refine ⟨hc.set (hc.sea.put7 nv), ownsRow_of (row_kept h.keys hg (fun g e e' => h.apart e' e)) fun g e => Deep.blk_setCell_other _ _ _ _ (h.core.far h.keys (.inl rfl) e).2.1, ownsRow_of ho fun g e => Deep.blk_setCell_other _ _ _ _ ?_⟩
  rcases hat g e with hh | hh
  · exact (h.core.far h.marks (.inr rfl) hh).2.1
  · show g ≠ s; omega

/-- Behind a mark's draw. -/
theorem Half.drawn {w w' : World} {B l s r p m nk nm : Nat} {T : List (Int × Int)} {ks ms : List Value} {kv mv : Value} (h : Half w B l s r p m T nk nm ks ms kv mv) (hg : w.grownBy w' (some p)) (hG : Gen w' r p) : Half w' B l s r p m T nk nm ks ms kv mv := by
  obtain ⟨a1, a2, a3, a4, a5⟩ := h.core.lts
  obtain ⟨n1, n2, n3, n4, n5, n6, n7, n8, n9, n10⟩ := h.core.apart
  refine ⟨⟨h.core.lod.of (hg.block _ a1 (by simpa using n3)), hG, h.core.tab.of (hg.block _ a5 (by simpa using n10.symm)), h.core.sea.of (hg.block _ a2 (by simpa using n6)), h.core.base⟩, row_kept h.keys hg (fun g e e' => (h.core.far h.keys (.inl rfl) e').2.2.2.1 (by simpa using e.symm)), row_kept h.marks hg (fun g e e' => (h.core.far h.marks (.inr rfl) e').2.2.2.1 (by simpa using e.symm))⟩

/-- Block k is none of those that a loader writes to. -/
structure Far (w : World) (s p m : Nat) (kv mv : Value) (k : Nat) : Prop where
  lt : k < w.heap.size
  ns : k ≠ s
  np : k ≠ p
  nm : k ≠ m
  nk : kv.ownBlock ≠ some k
  nv : mv.ownBlock ≠ some k

/-- What a loader's call leaves: the blocks below B, and every block that is none of the loader's. -/
def Moves (B s p m : Nat) (w w' : World) (kv mv kv' mv' : Value) : Prop :=
  Below B w w' ∧ ∀ k, Far w s p m kv mv k → Far w' s p m kv' mv' k ∧ w'.heap[k]? = w.heap[k]?

theorem Moves.refl (B s p m : Nat) (w : World) (kv mv : Value) : Moves B s p m w w kv mv kv mv := ⟨Below.refl _ _, fun _ h => ⟨h, rfl⟩⟩

theorem Moves.grown {B s p m : Nat} {w w1 w2 : World} {kv mv kv1 mv1 : Value} (h : Moves B s p m w w1 kv mv kv1 mv1) {row : Option Nat} (hg : w1.grownBy w2 row) (hr : row = none ∨ row = some p ∨ row = some m ∨ row = kv1.ownBlock ∨ row = mv1.ownBlock) (hB : B ≤ w1.heap.size) (hb : ∀ k, row = some k → B ≤ k) :
    Moves B s p m w w2 kv mv kv1 mv1 := by
  refine ⟨Below.grown h.1 hg hB hb, fun k hk => ?_⟩
  obtain ⟨f, e⟩ := h.2 k hk
  refine ⟨⟨Nat.lt_of_lt_of_le f.lt hg.size, f.ns, f.np, f.nm, f.nk, f.nv⟩, (hg.block k f.lt ?_).trans e⟩
  rcases hr with rfl | rfl | rfl | rfl | rfl
  · simp
  · simpa using f.np
  · simpa using f.nm
  · exact fun e => f.nk e.symm
  · exact fun e => f.nv e.symm

theorem Moves.key {B s p m i : Nat} {w w1 : World} {kv mv kv1 mv1 nv : Value} (h : Moves B s p m w w1 kv mv kv1 mv1) (hs : B ≤ s) (hat : ∀ g, nv.ownBlock = some g → kv1.ownBlock = some g ∨ w.heap.size ≤ g) :
    Moves B s p m w (w1.setCell ⟨s, i, none⟩ nv) kv mv nv mv1 := by
  refine ⟨Below.setCell h.1 hs _, fun k hk => ?_⟩
  obtain ⟨f, e⟩ := h.2 k hk
  refine ⟨⟨by simpa using f.lt, f.ns, f.np, f.nm, fun e => ?_, f.nv⟩, (Deep.blk_setCell_other _ _ _ _ f.ns).trans e⟩
  rcases hat k e with h1 | h1
  · exact f.nk h1
  · have := hk.lt; omega

theorem Moves.mark {B s p m i : Nat} {w w1 : World} {kv mv kv1 mv1 nv : Value} (h : Moves B s p m w w1 kv mv kv1 mv1) (hs : B ≤ s) (hat : ∀ g, nv.ownBlock = some g → mv1.ownBlock = some g ∨ w.heap.size ≤ g) :
    Moves B s p m w (w1.setCell ⟨s, i, none⟩ nv) kv mv kv1 nv := by
  refine ⟨Below.setCell h.1 hs _, fun k hk => ?_⟩
  obtain ⟨f, e⟩ := h.2 k hk
  refine ⟨⟨by simpa using f.lt, f.ns, f.np, f.nm, f.nk, fun e => ?_⟩, (Deep.blk_setCell_other _ _ _ _ f.ns).trans e⟩
  rcases hat k e with h1 | h1
  · exact f.nv h1
  · have := hk.lt; omega

attribute [local go_sem ↓] Go.wp_at_zero Go.wp_at_succ

set_option maxRecDepth 100000 in
set_option maxHeartbeats 8000000 in
theorem look_new (B l s r p m : Nat) (T : List (Int × Int)) (ks ms : List Value) (kv mv : Value) (key v : Int) (nn : Bool) (w : World) (h : Lo w B l s r p m T ks ms kv mv) (hT : T.length ≤ 4096) (h1 : -2147483648 ≤ key) (h2 : key ≤ 2147483647) (h3 : -9223372036854775808 ≤ v) (h4 : v ≤ 9223372036854775807) (hin : idOf key v nn ∉ T) :
    Calls Try.prog 38 #[.pointer (some ⟨l, 0, none⟩), .int .i32 key, .int .i64 v, .bool nn] w fun e w' => e = .returned (.int .i32 T.length) ∧
      ∃ kv' mv' x y, Moves B s p m w w' kv mv kv' mv' ∧ Lo w' B l s r p m (T ++ [idOf key v nn]) (ks ++ [.int .i32 key]) (ms ++ [.int .u64 x, .int .u64 y]) kv' mv' := by
  have hor := or_one key h1 h2
  obtain ⟨ka, kc, rfl⟩ := row_form h.keys
  obtain ⟨ma, mc, rfl⟩ := row_form h.marks
  have HC : Hid (Lo w B l s r p m T ks ms (.slice ka T.length kc) (.slice ma T.length mc)) := h
  have HK : Hid (IdOk (idOf key v nn)) := idOk key v nn h1 h2 h3 h4
  have HI : Hid (idOf key v nn ∉ T) := hin
  have hB : Hid (B ≤ w.heap.size) := (by have := h.core.base; have := h.core.lts; omega : B ≤ w.heap.size)
  clear h hin
  obtain ⟨a, ha⟩ : ∃ a, a = wordOf key nn := ⟨_, rfl⟩
  have HA : Hid (a = wordOf key nn) := ha
  have e : idOf key v nn = (a, v) := by rw [ha]; rfl
  rw [e] at HK HI ⊢
  clear ha e
  go_enter Try.func38, Try.ntmps38
  go_upto_if 17 with fail
  go_cut [] (fun wx => idIs wx w.heap.size a v ∧ w.grownBy wx none)
  case first =>
    obtain rfl := HA.out
    clear HA
    cases nn
    · go_wp2
      go_meet
      exact ⟨Deep.blk_alloc_new _ _, World.grownBy_alloc _ _ _⟩
    · go_wp2
      go_meet
      exact ⟨Deep.blk_alloc_new _ _, World.grownBy_alloc _ _ _⟩
  case rest =>
  obtain ⟨hid, hgr⟩ := hcut
  have HB1 : Hid (Moves B s p m w wc (.slice ka T.length kc) (.slice ma T.length mc) (.slice ka T.length kc) (.slice ma T.length mc)) := (Moves.refl _ _ _ _ _ _ _).grown hgr (.inl rfl) hB.out (by simp)
  have HB2 : Hid (B ≤ wc.heap.size) := Nat.le_trans hB.out hgr.size
  have HD : Hid (idIs wc w.heap.size a v) := hid
  have HL1 : Hid (Lo wc B l s r p m T ks ms (.slice ka T.length kc) (.slice ma T.length mc)) := ⟨HC.out.core.kept hgr (by simp), row_kept HC.out.keys hgr (by simp), row_kept HC.out.marks hgr (by simp)⟩
  obtain ⟨c0, c2, c3⟩ := HL1.out.core.lod.cell
  obtain ⟨c6, c7, _, _⟩ := HL1.out.core.sea.cell
  obtain ⟨d0, d1⟩ := hid.cell
  have hlk : ∀ k, (Instr.lookup 82 (.map (some m)) (.agg #[.int .i64 a, .int .i64 v]) true).run Try.prog (wc.drewN k) = .ok (.tuple #[.int .i32 0, .bool false]) (wc.drewN k) := fun k => (HL1.out.core.tab.of (w' := wc.drewN k) rfl).miss HK.out HI.out
  clear hgr hid HC HA hor
  generalize w.heap.size = q at *
  go_wp2
  go_quiet (fail)
  go_wp2
  have HL2 : Hid (Half (wc.drewN nq) B l s r p m T T.length T.length ks ms (.slice ka T.length kc) (.slice ma T.length mc)) := Half.kept ⟨HL1.out.core, HL1.out.keys, HL1.out.marks⟩ (grown_drewN _ _ _)
  have HB3 : Hid (Moves B s p m w (wc.drewN nq) (.slice ka T.length kc) (.slice ma T.length mc) (.slice ka T.length kc) (.slice ma T.length mc)) := HB1.out.grown (grown_drewN _ _ none) (.inl rfl) HB2.out (by simp)
  have HB4 : Hid (B ≤ (wc.drewN nq).heap.size) := HB2.out
  have HD2 : idIs (wc.drewN nq) q a v := HD.out
  clear hlk c0 c2 c3 c6 c7 d0 d1 HD HL1 HB1 HB2
  generalize wc.drewN nq = W1 at *
  obtain ⟨c0, c2, c3⟩ := HL2.out.core.lod.cell
  obtain ⟨d0, d1⟩ := HD2.cell
  clear HD2
  obtain ⟨W2, hput, htab2, hgr2⟩ := (HL2.out.core.tab.of (w' := W1.drew) rfl).put HK.out HI.out (by omega)
  simp only at hput
  have HC3 : Hid (Core W2 B l s r p m (T ++ [(a, v)]) (.slice ka T.length kc) (.slice ma T.length mc)) := (HL2.out.core.kept (grown_drewN W1 1 none) (by simp)).turn hgr2 htab2
  have HL3 : Hid (Half W2 B l s r p m (T ++ [(a, v)]) T.length T.length ks ms (.slice ka T.length kc) (.slice ma T.length mc)) :=
    ⟨HC3.out, row_kept HL2.out.keys (World.grownBy.trans (grown_drewN W1 1 _) hgr2) (fun g e h => (HL2.out.core.far HL2.out.keys (.inl rfl) h).2.2.2.2 (by simpa using e.symm)),
      row_kept HL2.out.marks (World.grownBy.trans (grown_drewN W1 1 _) hgr2) (fun g e h => (HL2.out.core.far HL2.out.marks (.inr rfl) h).2.2.2.2 (by simpa using e.symm))⟩
  have HB5 : Hid (Moves B s p m w W2 (.slice ka T.length kc) (.slice ma T.length mc) (.slice ka T.length kc) (.slice ma T.length mc)) := HB3.out.grown (World.grownBy.trans (grown_drewN W1 1 _) hgr2) (.inr (.inr (.inl rfl))) HB4.out (fun k e => by have := HL2.out.core.base; simp at e; omega)
  have HB6 : Hid (B ≤ W2.heap.size) := Nat.le_trans HB4.out hgr2.size
  clear htab2 hgr2
  go_cut [] (fun wx => wx = W2)
  case first =>
    go_region
    all_goals (go_wp2_with fail; go_meet; rfl)
  case rest =>
  obtain rfl := hcut
  clear hput c0 c2 c3 d0 d1 HL2 HB3 HB4 HI HK HC3
  obtain ⟨W3, hW3⟩ : ∃ W3, W3 = wc := ⟨_, rfl⟩
  rw [← hW3] at HL3 HB5 HB6
  rw [← hW3]
  clear hW3
  obtain ⟨c0, c2, c3⟩ := HL3.out.core.lod.cell
  obtain ⟨c6, c7, f6, f7⟩ := HL3.out.core.sea.cell
  obtain ⟨hl, hs, hr, hp, hm⟩ := HL3.out.core.lts
  have aq : (Value.slice ka T.length kc).ownBlock ≠ some W3.heap.size := fun e => by have := ownBlock_lt HL3.out.keys e; omega
  obtain ⟨i0, hi0, hz0, hz1, hz2⟩ := info_parts Try.info21
  have HL4 : Hid (Half (W3.alloc (.cells #[.int .i32 key] 21)).drew B l s r p m (T ++ [(a, v)]) T.length T.length ks ms (.slice ka T.length kc) (.slice ma T.length mc)) := (HL3.out.kept (World.grownBy_alloc W3 (.cells #[.int .i32 key] 21) none)).kept (grown_drewN _ 1 _)
  go_wp2_with fail
  go_cut [] (fun wx => ∃ ga kc', Moves B s p m w wx (.slice ka T.length kc) (.slice ma T.length mc) (.slice ga (T.length + 1) kc') (.slice ma T.length mc) ∧ Half wx B l s r p m (T ++ [(a, v)]) (T.length + 1) T.length (ks ++ [.int .i32 key]) ms (.slice ga (T.length + 1) kc') (.slice ma T.length mc))
  case first =>
    go_region_law ((refine step_append_lies _ (by rfl) _ _ _ (by rfl) B 21 i0 _ 1 4 Try.under25 hi0 hz0 hz1 hz2 rfl (by omega) (.slice ka T.length kc) T.length ks (by rfl) HL4.out.keys ⟨W3.heap.size, 0, none⟩ 1 1 [.int .i32 key] (by rfl) (by rfl) (World.news_of_block (cs := #[.int .i32 key]) (t := 21) (fr := (0, 0)) (heap_alloc_new W3 _)) (by simp [Value.oneCell']) (by omega) (by unfold maxLen; omega) (by omega) (by simp; have := HB6.out; omega) (W3.heap.size + 1) (by simp) ?_; intro gg cap w1 hown1 hgrow hat hlt; have HC2 : Hid (Core w1 B l s r p m (T ++ [(a, v)]) (.slice ka T.length kc) (.slice ma T.length mc)) := HL4.out.core.kept hgrow (fun g e => HL4.out.core.far HL4.out.keys (.inl rfl) e); obtain ⟨rc1, _, _⟩ := HC2.out.lod.cell; obtain ⟨rc6, _, rf6, _⟩ := HC2.out.sea.cell))
    all_goals
      have hat2 : ∀ g, (Value.slice (some ⟨gg, 0, none⟩) (T.length + 1) cap).ownBlock = some g → (Value.slice ka T.length kc).ownBlock = some g ∨ W3.heap.size + 1 ≤ g := fun g e => by
        simp only [Value.ownBlock, Option.some.injEq] at e
        subst e
        rcases hat with hh | hh
        · exact .inl hh
        · exact .inr (by omega)
      have HR : Hid (∃ ga kc', Moves B s p m w (w1.setCell ⟨s, 6, none⟩ (.slice (some ⟨gg, 0, none⟩) (T.length + 1) cap)) (.slice ka T.length kc) (.slice ma T.length mc) (.slice ga (T.length + 1) kc') (.slice ma T.length mc) ∧ Half (w1.setCell ⟨s, 6, none⟩ (.slice (some ⟨gg, 0, none⟩) (T.length + 1) cap)) B l s r p m (T ++ [(a, v)]) (T.length + 1) T.length (ks ++ [.int .i32 key]) ms (.slice ga (T.length + 1) kc') (.slice ma T.length mc)) := by
        refine ⟨_, _, ?_, half_key HL4.out hown1 hgrow fun g e => ?_⟩
        · refine Moves.key (((HB5.out.grown (World.grownBy_alloc W3 (.cells #[.int .i32 key] 21) none) (.inl rfl) HB6.out (by simp)).grown (grown_drewN _ 1 none) (.inl rfl) (by have := HB6.out; simp; omega) (by simp)).grown hgrow (.inr (.inr (.inr (.inl rfl)))) (by have := HB6.out; show B ≤ (W3.alloc _).heap.size; simp; omega) fun k hk => (ownBlock_lt HL4.out.keys hk).1) HL3.out.core.base.2.1 fun g e => ?_
          rcases hat2 g e with hh | hh
          · exact .inl hh
          · exact .inr (by have := HB5.out.1.size; omega)
        · rcases hat2 g e with hh | hh
          · exact .inl hh
          · exact .inr (by show (W3.alloc _).heap.size ≤ g; simp; omega)
      clear hown1 hgrow hat hlt HC2 hat2
      go_wp2_with fail
      go_meet
      exact HR.out
  case rest =>
  obtain ⟨ga, kc2, hbel, hhalf⟩ := hcut
  have HB7 : Hid (Moves B s p m w wc (.slice ka T.length kc) (.slice ma T.length mc) (.slice ga (T.length + 1) kc2) (.slice ma T.length mc)) := hbel
  have HL5 : Hid (Half wc B l s r p m (T ++ [(a, v)]) (T.length + 1) T.length (ks ++ [.int .i32 key]) ms (.slice ga (T.length + 1) kc2) (.slice ma T.length mc)) := hhalf
  clear hbel hhalf HL4 HL3 HB5 HB6 c0 c2 c3 c6 c7 f6 f7 hl hs hr hp hm aq hi0 hz0 hz1 hz2
  obtain ⟨c0, c2, c3⟩ := HL5.out.core.lod.cell
  obtain ⟨c6, c7, f6, f7⟩ := HL5.out.core.sea.cell
  obtain ⟨i1, hi1, hz3, hz4, hz5⟩ := info_parts Try.info36
  have HB8 : Hid (B ≤ wc.drew.heap.size) := (by have := HL5.out.core.base; have := HL5.out.core.lts; show B ≤ wc.heap.size; omega : B ≤ wc.drew.heap.size)
  have HLd : Hid (Half wc.drew B l s r p m (T ++ [(a, v)]) (T.length + 1) T.length (ks ++ [.int .i32 key]) ms (.slice ga (T.length + 1) kc2) (.slice ma T.length mc)) := HL5.out.kept (grown_drewN wc 1 none)
  have HBd : Hid (Moves B s p m w wc.drew (.slice ka T.length kc) (.slice ma T.length mc) (.slice ga (T.length + 1) kc2) (.slice ma T.length mc)) := HB7.out.grown (grown_drewN wc 1 none) (.inl rfl) HB8.out (by simp)
  clear HL5 HB7
  go_wp2_with fail
  go_cut [] (fun wx => ∃ ha hc x y, Moves B s p m w wx (.slice ka T.length kc) (.slice ma T.length mc) (.slice ga (T.length + 1) kc2) (.slice ha (T.length + 1) hc) ∧ Half wx B l s r p m (T ++ [(a, v)]) (T.length + 1) (T.length + 1) (ks ++ [.int .i32 key]) (ms ++ [.int .u64 x, .int .u64 y]) (.slice ga (T.length + 1) kc2) (.slice ha (T.length + 1) hc))
  case first =>
    go_region_law (first
      | (refine step_append_lies _ (by rfl) _ _ _ (by rfl) B 36 i1 _ 2 16 Try.under34 hi1 hz3 hz4 hz5 rfl (by omega) (.slice ma T.length mc) T.length ms (by rfl) HL7.out.marks ⟨W5.heap.size, 0, none⟩ 1 1 [.int .u64 x, .int .u64 y] (by rfl) (by rfl) (World.news_of_block (cs := #[.int .u64 x, .int .u64 y]) (t := 36) (fr := (0, 0)) (heap_alloc_new W5 _)) (by simp [Value.oneCell']) (by omega) (by unfold maxLen; omega) (by omega) (by simp; have := HB9.out; omega) (W5.heap.size + 1) (by simp) ?_; intro gg cap w1 hown1 hgrow hat hlt; have HC2 : Hid (Core w1 B l s r p m (T ++ [(a, v)]) (.slice ga (T.length + 1) kc2) (.slice ma T.length mc)) := HL7.out.core.kept hgrow (fun g e => HL7.out.core.far HL7.out.marks (.inr rfl) e); obtain ⟨rc1, _, _⟩ := HC2.out.lod.cell; obtain ⟨_, rc7, _, rf7⟩ := HC2.out.sea.cell)
      | (go_simp
         go_at_call 42
         refine (mark_any l s r m p wc.drew HLd.out.core.lod HLd.out.core.gen).mono ?_
         rintro e W5 ⟨x, y, hx, hy, rfl, hgr, hgen⟩
         have HL6 : Hid (Half W5 B l s r p m (T ++ [(a, v)]) (T.length + 1) T.length (ks ++ [.int .i32 key]) ms (.slice ga (T.length + 1) kc2) (.slice ma T.length mc)) := HLd.out.drawn hgr hgen
         have HB9 : Hid (B ≤ W5.heap.size) := Nat.le_trans HB8.out hgr.size
         have HBe : Hid (Moves B s p m w W5 (.slice ka T.length kc) (.slice ma T.length mc) (.slice ga (T.length + 1) kc2) (.slice ma T.length mc)) := HBd.out.grown hgr (.inr (.inl rfl)) HB8.out (fun k e => by have := HLd.out.core.base; simp at e; omega)
         have HL7 : Hid (Half (W5.alloc (.cells #[.int .u64 x, .int .u64 y] 36)) B l s r p m (T ++ [(a, v)]) (T.length + 1) T.length (ks ++ [.int .i32 key]) ms (.slice ga (T.length + 1) kc2) (.slice ma T.length mc)) := HL6.out.kept (World.grownBy_alloc W5 _ none)
         clear hx hy hgr hgen
         obtain ⟨e0, _, _⟩ := HL6.out.core.lod.cell
         obtain ⟨_, e7, _, _⟩ := HL6.out.core.sea.cell
         obtain ⟨hl, hs, _, _, _⟩ := HL6.out.core.lts))
    all_goals
      have hat2 : ∀ g, (Value.slice (some ⟨gg, 0, none⟩) (T.length + 1) cap).ownBlock = some g → (Value.slice ma T.length mc).ownBlock = some g ∨ W5.heap.size + 1 ≤ g := fun g e => by
        simp only [Value.ownBlock, Option.some.injEq] at e
        subst e
        rcases hat with hh | hh
        · exact .inl hh
        · exact .inr (by omega)
      have HR : Hid (∃ ha hc x y, Moves B s p m w (w1.setCell ⟨s, 7, none⟩ (.slice (some ⟨gg, 0, none⟩) (T.length + 1) cap)) (.slice ka T.length kc) (.slice ma T.length mc) (.slice ga (T.length + 1) kc2) (.slice ha (T.length + 1) hc) ∧ Half (w1.setCell ⟨s, 7, none⟩ (.slice (some ⟨gg, 0, none⟩) (T.length + 1) cap)) B l s r p m (T ++ [(a, v)]) (T.length + 1) (T.length + 1) (ks ++ [.int .i32 key]) (ms ++ [.int .u64 x, .int .u64 y]) (.slice ga (T.length + 1) kc2) (.slice ha (T.length + 1) hc)) := by
        refine ⟨_, _, x, y, ?_, half_mark HL7.out hown1 hgrow fun g e => ?_⟩
        · refine Moves.mark ((HBe.out.grown (World.grownBy_alloc W5 (.cells #[.int .u64 x, .int .u64 y] 36) none) (.inl rfl) HB9.out (by simp)).grown hgrow (.inr (.inr (.inr (.inr rfl)))) (by have := HB9.out; simp; omega) fun k hk => (ownBlock_lt HL7.out.marks hk).1) HL6.out.core.base.2.1 fun g e => ?_
          rcases hat2 g e with hh | hh
          · exact .inl hh
          · exact .inr (by have := HBe.out.1.size; omega)
        · rcases hat2 g e with hh | hh
          · exact .inl hh
          · exact .inr (by simp; omega)
      clear hown1 hgrow hat hlt HC2 hat2
      go_wp2_with fail
      go_meet
      exact HR.out
  case rest =>
  obtain ⟨ha, hc, x, y, hbel, hhalf⟩ := hcut
  have HB10 : Hid (Moves B s p m w wc (.slice ka T.length kc) (.slice ma T.length mc) (.slice ga (T.length + 1) kc2) (.slice ha (T.length + 1) hc)) := hbel
  have HL8 : Hid (Half wc B l s r p m (T ++ [(a, v)]) (T.length + 1) (T.length + 1) (ks ++ [.int .i32 key]) (ms ++ [.int .u64 x, .int .u64 y]) (.slice ga (T.length + 1) kc2) (.slice ha (T.length + 1) hc)) := hhalf
  clear hbel hhalf HLd HBd HB8 c0 c2 c3 c6 c7 f6 f7
  go_wp2
  go_ret
  have e : (T ++ [(a, v)]).length = T.length + 1 := by simp
  exact ⟨rfl, _, _, x, y, HB10.out, HL8.out.core, by rw [e]; exact HL8.out.keys, by rw [e]; exact HL8.out.marks⟩
end Go.Proofs.Qxb6615561a
