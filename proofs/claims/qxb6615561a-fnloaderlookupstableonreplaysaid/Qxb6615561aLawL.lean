/-
  FnLoaderLookUpStableOnReplay: the walk.
-/
import Derived.Test.Qxb6615561aStep
import Derived.Deep.RegionHeld3
namespace Go.Proofs.Qxb6615561a
open Go.ChangeShapes Go.WideShapes Go.ChangeAt Go.RowKit

theorem bytesL (x y : Int) (a : Option Addr) (n c : Nat) (w : World) (hm : n ≤ 1048576) :
    Calls Try.prog 8 #[.int .u64 x, .int .u64 y, .slice a n c] w fun e w' => e = .returned (.bool true) ∧ w' = w := by
  go_enter Try.func8, Try.ntmps8
  go_wp2
  go_ret
  exact ⟨rfl, rfl⟩

theorem bytesL_no (x y : Int) (a : Option Addr) (n c : Nat) (w : World) (hm : 1048576 < n) :
    Calls Try.prog 8 #[.int .u64 x, .int .u64 y, .slice a n c] w fun e w' => e = .returned (.bool false) ∧ w' = w := by
  go_enter Try.func8, Try.ntmps8
  go_wp2
  go_ret
  exact ⟨rfl, rfl⟩

/-- What the first loop keeps. -/
structure One (w wr : World) (B l s r p m g n k : Nat) (L : List Lc) (ms : List Value) (kv mv : Value) : Prop where
  lo : Lo wr B l s r p m (tabOf (L.take k)) ((tabOf (L.take k)).map keyV) ms kv mv
  allU : AllU ms
  row : RowI wr g n k (numOf L)
  far : Far wr s p m kv mv g
  bel : Below w.heap.size w wr
  gb : w.heap.size ≤ g

theorem Lo.kept {w w' : World} {B l s r p m : Nat} {T : List (Int × Int)} {ks ms : List Value} {kv mv : Value} (h : Lo w B l s r p m T ks ms kv mv) (hg : w.grownBy w' none) : Lo w' B l s r p m T ks ms kv mv :=
  ⟨h.core.kept hg (by simp), row_kept h.keys hg (by simp), row_kept h.marks hg (by simp)⟩

theorem Moves.trans {B s p m : Nat} {w w1 w2 : World} {kv mv kv1 mv1 kv2 mv2 : Value} (h : Moves B s p m w w1 kv mv kv1 mv1) (h' : Moves B s p m w1 w2 kv1 mv1 kv2 mv2) : Moves B s p m w w2 kv mv kv2 mv2 :=
  ⟨h.1.trans h'.1, fun k hk => by
    obtain ⟨f, e⟩ := h.2 k hk
    obtain ⟨f', e'⟩ := h'.2 k f
    exact ⟨f', e'.trans e⟩⟩

theorem RowI.far {w : World} {B l s r p m g n k : Nat} {T : List (Int × Int)} {kv mv : Value} {f : Nat → Int} (h : RowI w g n k f) (hc : Core w B l s r p m T kv mv) : g ≠ l ∧ g ≠ s ∧ g ≠ r ∧ g ≠ p ∧ g ≠ m := by
  obtain ⟨cur, hg, _⟩ := h.row
  obtain ⟨h1, ⟨⟨hi, lo, _, _, h2⟩, h3⟩, h4, h5, _⟩ := hc
  obtain ⟨es, ck, h4⟩ := h4.map
  unfold lodIs at h1; unfold pcgIs at h2; unfold randIs at h3; unfold seaIs at h5
  refine ⟨?_, ?_, ?_, ?_, ?_⟩ <;> (intro e; subst e; simp_all)

theorem Lo.setI {w : World} {B l s r p m g n k i : Nat} {T : List (Int × Int)} {ks ms : List Value} {kv mv u : Value} {f : Nat → Int} (h : Lo w B l s r p m T ks ms kv mv) (hr : RowI w g n k f) (hf : Far w s p m kv mv g) : Lo (w.setCell ⟨g, i, none⟩ u) B l s r p m T ks ms kv mv := by
  have hg : w.grownBy (w.setCell ⟨g, i, none⟩ u) (some g) := grown_setCell w ⟨g, i, none⟩ u
  refine ⟨h.core.kept hg (fun g' e => ?_), row_kept h.keys hg (fun g' e => ?_), row_kept h.marks hg (fun g' e => ?_)⟩
  · simp only [Option.some.injEq] at e; subst e; exact hr.far h.core
  · simp only [Option.some.injEq] at e; subst e; exact hf.nk
  · simp only [Option.some.injEq] at e; subst e; exact hf.nv

theorem One.step {w wr wk : World} {B l s r p m g n k : Nat} {L : List Lc} {ms ms' : List Value} {kv mv kv' mv' : Value} (h : One w wr B l s r p m g n k L ms kv mv) (hk : k < n) (hL : L.length = n) (hB : w.heap.size ≤ B) (hm : Moves B s p m wr wk kv mv kv' mv')
    (hlo : Lo wk B l s r p m (addId (tabOf (L.take k)) (L.getD k lc0)) ((addId (tabOf (L.take k)) (L.getD k lc0)).map keyV) ms' kv' mv') (hu : AllU ms') : RowI wk g n k (numOf L) ∧ One w (wk.setCell ⟨g, k, none⟩ (.int .i32 (numOf L k))) B l s r p m g n (k + 1) L ms' kv' mv' := by
  obtain ⟨hf, hb⟩ := hm.2 g h.far
  have hrow : RowI wk g n k (numOf L) := h.row.of hb
  have hbel : Below w.heap.size w wk := h.bel.trans ⟨hm.1.os, hm.1.tape, hm.1.output, hm.1.size, fun i hi => hm.1.block i (by omega)⟩
  refine ⟨hrow, ?_, hu, hrow.set k hk _ (k + 1) (fun j hj => ?_), ⟨by simpa using hf.lt, hf.ns, hf.np, hf.nm, hf.nk, hf.nv⟩, Below.setCell hbel h.gb _, h.gb⟩
  · rw [tabOf_take L k (by omega)]; exact hlo.setI hrow hf
  · by_cases e : j = k
    · exact .inl ⟨e, rfl⟩
    · exact .inr ⟨e, by omega⟩

/-- What stands behind the first loop. -/
structure Fin (w wr : World) (B l s r p m g n : Nat) (L : List Lc) (ms : List Value) (kv mv : Value) : Prop where
  lo : Lo wr B l s r p m (tabOf L) ((tabOf L).map keyV) ms kv mv
  row : RowI wr g n n (numOf L)
  bel : Below w.heap.size w wr
  base : w.heap.size ≤ wr.heap.size

theorem Fin.kept {w wr wk : World} {B l s r p m g n : Nat} {L : List Lc} {ms : List Value} {kv mv : Value} (h : Fin w wr B l s r p m g n L ms kv mv) (hg : wr.grownBy wk none) : Fin w wk B l s r p m g n L ms kv mv :=
  ⟨h.lo.kept hg, h.row.of (hg.block g h.row.lt (by simp)), Below.grown h.bel hg h.base (by simp), Nat.le_trans h.base hg.size⟩

/-- Block h is none of those that stand. -/
structure Off (w : World) (l s r p m g h : Nat) (kv mv : Value) : Prop where
  nl : h ≠ l
  ns : h ≠ s
  nr : h ≠ r
  np : h ≠ p
  nm : h ≠ m
  ng : h ≠ g
  nk : kv.ownBlock ≠ some h
  nv : mv.ownBlock ≠ some h
  base : w.heap.size ≤ h

theorem Fin.off {w wr : World} {B l s r p m g n : Nat} {L : List Lc} {ms : List Value} {kv mv : Value} (h : Fin w wr B l s r p m g n L ms kv mv) : Off w l s r p m g wr.heap.size kv mv := by
  have h1 := h.lo.core.lts
  have h2 := h.row.lt
  refine ⟨by omega, by omega, by omega, by omega, by omega, by omega, fun e => ?_, fun e => ?_, h.base⟩
  · have := ownBlock_lt h.lo.keys e; omega
  · have := ownBlock_lt h.lo.marks e; omega

theorem Fin.set {w wr : World} {B l s r p m g n h i : Nat} {L : List Lc} {ms : List Value} {kv mv u : Value} (hf : Fin w wr B l s r p m g n L ms kv mv) (ho : Off w l s r p m g h kv mv) : Fin w (wr.setCell ⟨h, i, none⟩ u) B l s r p m g n L ms kv mv := by
  have hg : wr.grownBy (wr.setCell ⟨h, i, none⟩ u) (some h) := grown_setCell wr ⟨h, i, none⟩ u
  refine ⟨⟨hf.lo.core.kept hg (fun g' e => ?_), row_kept hf.lo.keys hg (fun g' e => ?_), row_kept hf.lo.marks hg (fun g' e => ?_)⟩, hf.row.of (Deep.blk_setCell_other _ _ _ _ ho.ng.symm), Below.setCell hf.bel ho.base _, by simpa using hf.base⟩
  · simp only [Option.some.injEq] at e; subst e; exact ⟨ho.nl, ho.ns, ho.nr, ho.np, ho.nm⟩
  · simp only [Option.some.injEq] at e; subst e; exact ho.nk
  · simp only [Option.some.injEq] at e; subst e; exact ho.nv

set_option maxRecDepth 100000 in
set_option maxHeartbeats 8000000 in
theorem law_small (s1 s2 : Int) (h1 : Word s1) (h2 : Word s2) (a : Option Addr) (n c : Nat) (L : List Lc) (w : World) (hm : n ≤ 4096) (hz : HasL w a n L) :
    Calls Try.prog 3 #[.int .u64 s1, .int .u64 s2, .slice a n c] w fun e w' => e = .returned (.bool true) ∧ Below w.heap.size w w' := by
  have HZ : Hid (HasL w a n L) := hz
  have hlen := hz.len
  clear hz
  have hmk := run_madeI n (by omega)
  have hd : decide ((4096 : Int) < (n : Int)) = false := decide_eq_false (by omega)
  go_enter Try.func3, Try.ntmps3
  go_wp2_with fail
  refine (bytesL s1 s2 a n c w (by omega)).mono ?_
  rintro e w' ⟨rfl, rfl⟩
  go_wp2_with fail
  refine (model_any a n c L w' hm HZ.out).mono ?_
  rintro e W1 ⟨ev, ka, kc, rfl, hb1⟩
  have HB1 : Hid (Below w'.heap.size w' W1) := hb1
  have hT : (tabOf L).length ≤ 4096 := by have := tabOf_length_le L; omega
  clear hb1
  go_wp2_with fail
  refine (make_any s1 s2 h1 h2 W1).mono ?_
  rintro e W2 ⟨l, s, r, p, m, rfl, hb2, hlo⟩
  have HB2 : Hid (Below W1.heap.size W1 W2) := hb2
  have HL2 : Hid (Lo W2 W1.heap.size l s r p m [] [] [] (.slice none 0 0) (.slice none 0 0)) := hlo
  clear hb2 hlo
  go_wp2
  have HO : Hid (One w' (W2.alloc (.cells (madeI n) 21)) W1.heap.size l s r p m W2.heap.size n 0 L [] (.slice none 0 0) (.slice none 0 0)) := by
    refine ⟨?_, fun u hu => absurd hu (by simp), RowI.made W2 n _, ?_, ?_, Nat.le_trans HB1.out.size HB2.out.size⟩
    · simpa [tabOf] using HL2.out.kept (World.grownBy_alloc W2 _ none)
    · have := HL2.out.core.lts
      exact ⟨by simp, by omega, by omega, by omega, by simp [Value.ownBlock], by simp [Value.ownBlock]⟩
    · have h12 := HB1.out.size
      have h23 := HB2.out.size
      refine Below.alloc (HB1.out.trans ⟨HB2.out.os, HB2.out.tape, HB2.out.output, HB2.out.size, fun i hi => HB2.out.block i (by omega)⟩) (by omega) _
  have HBB : Hid (w'.heap.size ≤ W1.heap.size) := HB1.out.size
  have HBG : Hid (w'.heap.size ≤ W2.heap.size) := Nat.le_trans HB1.out.size HB2.out.size
  generalize W2.alloc (.cells (madeI n) 21) = W3 at *
  generalize W2.heap.size = g at *
  generalize W1.heap.size = B at *
  clear HL2 HB1 HB2 hmk
  go_loopw [12] (fun i wr => ∃ (k : Nat) (ms : List Value) (kv mv : Value), k ≤ n ∧ i = .int .i64 k ∧ One w' wr B l s r p m g n k L ms kv mv) (fun i _ => n - (intOf i).toNat)
  case atStart => exact ⟨0, [], _, _, Nat.zero_le _, rfl, HO.out⟩
  case round =>
    obtain ⟨k, ms, kv, mv, hk, rfl, hone⟩ := hrel
    have H1 : Hid (One w' wr B l s r p m g n k L ms kv mv) := hone
    clear hone HO
    by_cases hlt : k < n
    · obtain ⟨b, off, hx, hb, hcell⟩ := (HZ.out.below H1.out.bel).at' (by omega)
      subst hx
      obtain ⟨c1, c2, c3⟩ := hcell k hlt
      have hok := HZ.out.ok k hlt
      have hT1 : (tabOf (L.take k)).length ≤ 4096 := by have := tabOf_length_le (L.take k); have := List.length_take_le k L; omega
      obtain ⟨x, hx⟩ : ∃ x, x = L.getD k lc0 := ⟨_, rfl⟩
      have HX : Hid (x = L.getD k lc0) := hx
      rw [← hx] at c1 c2 c3 hok
      have HK : Hid (x.Ok) := hok
      clear hx hcell hok
      have HLd : Hid (Lo wr.drew B l s r p m (tabOf (L.take k)) ((tabOf (L.take k)).map keyV) ms kv mv) := H1.out.lo.kept (grown_drewN wr 1 none)
      have HMd : Hid (Moves B s p m wr wr.drew kv mv kv mv) := (Moves.refl _ _ _ _ _ _ _).grown (grown_drewN wr 1 none) (.inl rfl) (by have := H1.out.lo.core.base; have := H1.out.lo.core.lts; omega) (by simp)
      go_wp2_with fail
      go_region_with (go_at_call 11; refine (step_any B l s r p m _ ms kv mv x wr.drew HLd.out H1.out.allU hT1 HK.out).mono ?_; rintro e wk ⟨ms2, kv2, mv2, rfl, hmv, hlo, hu⟩; rw [HX.out] at hlo; rw [HX.out, numOf_step L k (by omega)]; obtain ⟨hri, hon⟩ := H1.out.step hlt hlen HBB.out (HMd.out.trans hmv) hlo hu; have HON : Hid (One w' (wk.setCell ⟨g, k, none⟩ (.int .i32 (numOf L k))) B l s r p m g n (k + 1) L ms2 kv2 mv2) := hon; obtain ⟨z0, hz0⟩ := hri.all k hlt; have hfr := hri.frozen k; clear hmv hlo hu hri hon)
      all_goals
        go_wp2
        go_round
        case rel => exact ⟨k + 1, ms2, kv2, mv2, by omega, by go_num, HON.out⟩
        case measure => simp [intOf]; omega
    · obtain rfl : k = n := by omega
      have e : L.take k = L := List.take_of_length_le (by omega)
      have hlo := H1.out.lo
      rw [e] at hlo
      obtain ⟨ka1, kc1, rfl⟩ := row_form hlo.keys
      obtain ⟨ma1, mc1, rfl⟩ := row_form hlo.marks
      have HL3 : Hid (Lo wr B l s r p m (tabOf L) ((tabOf L).map keyV) ms (.slice ka1 (tabOf L).length kc1) (.slice ma1 (tabOf L).length mc1)) := hlo
      clear hlo e
      have hmu := run_madeU (tabOf L).length (by omega)
      go_wp2_with fail
      refine (keys_of B l s r p m _ _ _ wr HL3.out.core).mono ?_
      rintro e w2 ⟨rfl, rfl⟩
      go_wp2_with fail
      refine (marks_of B l s r p m _ _ _ w2 HL3.out.core).mono ?_
      rintro e w3 ⟨rfl, rfl⟩
      have HF3 : Hid (Fin w' w3 B l s r p m g k L ms (.slice ka1 (tabOf L).length kc1) (.slice ma1 (tabOf L).length mc1)) := ⟨HL3.out, H1.out.row, H1.out.bel, H1.out.bel.size⟩
      obtain ⟨M, hM⟩ := H1.out.allU.fn
      have HM : Hid (∀ i, i < ms.length → ms[i]? = some (.int .u64 (M i))) := hM
      have HFF : Hid (Off w' l s r p m g w3.heap.size (.slice ka1 (tabOf L).length kc1) (.slice ma1 (tabOf L).length mc1)) := HF3.out.off
      have HF4 : Hid (Fin w' (w3.alloc (.cells (madeU (tabOf L).length) 36)) B l s r p m g k L ms (.slice ka1 (tabOf L).length kc1) (.slice ma1 (tabOf L).length mc1)) := HF3.out.kept (World.grownBy_alloc w3 _ none)
      have HU4 : Hid (RowU (w3.alloc (.cells (madeU (tabOf L).length) 36)) w3.heap.size (tabOf L).length 0 M) := RowU.made w3 _ _
      go_wp2
      clear hmu hM HF3 HL3 H1
      generalize w3.alloc (.cells (madeU (tabOf L).length) 36) = W4 at *
      generalize w3.heap.size = h at *
      go_loopw [16] (fun i wr => ∃ j : Nat, j ≤ (tabOf L).length ∧ i = .int .i64 j ∧ Fin w' wr B l s r p m g k L ms (.slice ka1 (tabOf L).length kc1) (.slice ma1 (tabOf L).length mc1) ∧ RowU wr h (tabOf L).length j M) (fun i _ => (tabOf L).length - (intOf i).toNat)
      case atStart => exact ⟨0, Nat.zero_le _, rfl, HF4.out, HU4.out⟩
      case round =>
        obtain ⟨j, hj, rfl, hfin, hrow⟩ := hrel
        have HF5 : Hid (Fin w' wr B l s r p m g k L ms (.slice ka1 (tabOf L).length kc1) (.slice ma1 (tabOf L).length mc1)) := hfin
        have HU5 : Hid (RowU wr h (tabOf L).length j M) := hrow
        clear hfin hrow HF4 HU4
        by_cases hlt2 : j < (tabOf L).length
        · obtain ⟨gm, cap, e, hcap, hgl, hcells⟩ := row_cells HF5.out.lo.marks (by omega)
          simp only [Value.slice.injEq, true_and] at e
          obtain ⟨rfl, rfl⟩ := e
          have hml := HF5.out.lo.marks.1
          have d0 := (hcells (j * 2) (by omega)).trans (HM.out (j * 2) (by omega))
          have d1 := (hcells (j * 2 + 1) (by omega)).trans (HM.out (j * 2 + 1) (by omega))
          obtain ⟨z0, hz0⟩ := HU5.out.all (j * 2) (by omega)
          obtain ⟨z1, hz1⟩ := HU5.out.all (j * 2 + 1) (by omega)
          have f0 := HU5.out.frozen (j * 2)
          have f1 := HU5.out.frozen (j * 2 + 1)
          clear hcells hml
          go_wp2
          go_round
          case rel => exact ⟨j + 1, by omega, by go_num, (HF5.out.set HFF.out).set HFF.out, HU5.out.set hlt2⟩
          case measure => simp [intOf]; omega
        · obtain rfl : j = (tabOf L).length := by omega
          go_wp2
          go_loopw [17, 18] (fun i _ wx => ∃ j : Nat, j ≤ k ∧ i = .int .i64 j ∧ Fin w' wx B l s r p m g k L ms (.slice ka1 (tabOf L).length kc1) (.slice ma1 (tabOf L).length mc1) ∧ RowU wx h (tabOf L).length (tabOf L).length M) (fun i _ _ => k - (intOf i).toNat)
          case atStart => exact ⟨0, Nat.zero_le _, rfl, HF5.out, HU5.out⟩
          case round =>
            obtain ⟨j, hj3, rfl, hfin, hrow⟩ := hrel
            clear HF5 HU5
            have HF6 : Hid (Fin w' wr B l s r p m g k L ms (.slice ka1 (tabOf L).length kc1) (.slice ma1 (tabOf L).length mc1)) := hfin
            have HU6 : Hid (RowU wr h (tabOf L).length (tabOf L).length M) := hrow
            clear hfin hrow
            by_cases hlt3 : j < k
            · obtain ⟨b, off, hx, hb, hcell⟩ := (HZ.out.below HF6.out.bel).at' (by omega)
              subst hx
              obtain ⟨c1, _, _⟩ := hcell j hlt3
              have n1 := numOf_lt L j (by omega)
              have n2 := key_at L j (by omega)
              have n3 := HF6.out.row.told j hlt3
              obtain ⟨q, hq⟩ : ∃ q : Nat, numOf L j = q := ⟨_, rfl⟩
              rw [hq] at n1 n2 n3
              have hqs : q < (tabOf L).length := by omega
              obtain ⟨gk, cap, e, hcap, hgl, hcells⟩ := row_cells HF6.out.lo.keys (by omega)
              simp only [Value.slice.injEq, true_and] at e
              obtain ⟨rfl, rfl⟩ := e
              have d0 := (hcells q (by omega)).trans n2
              obtain ⟨x, hx⟩ : ∃ x, x = L.getD j lc0 := ⟨_, rfl⟩
              rw [← hx] at c1 d0
              have e0 : decide ((q : Int) < 0) = false := decide_eq_false (by omega)
              have e1 : decide (((tabOf L).length : Int) ≤ (q : Int)) = false := decide_eq_false (by omega)
              clear hcells hcell n1 n2 hq hx
              go_wp2_with fail
              go_quiet (fail)
              go_wp2
              exact ⟨⟨j + 1, by omega, by go_num, HF6.out.kept (grown_drewN _ _ _), HU6.out.of rfl⟩, by simp [intOf]; omega⟩
            · obtain rfl : j = k := by omega
              go_wp2
              go_loopw [19] (fun i wx => ∃ t : Nat, t ≤ j ∧ i = .int .i64 t ∧ Fin w' wx B l s r p m g j L ms (.slice ka1 (tabOf L).length kc1) (.slice ma1 (tabOf L).length mc1) ∧ RowU wx h (tabOf L).length (tabOf L).length M) (fun i _ => j - (intOf i).toNat)
              case atStart => exact ⟨0, Nat.zero_le _, rfl, HF6.out, HU6.out⟩
              case round =>
                obtain ⟨t, ht, rfl, hfin, hrow⟩ := hrel
                clear HF6 HU6
                have HF7 : Hid (Fin w' wr B l s r p m g j L ms (.slice ka1 (tabOf L).length kc1) (.slice ma1 (tabOf L).length mc1)) := hfin
                have HU7 : Hid (RowU wr h (tabOf L).length (tabOf L).length M) := hrow
                clear hfin hrow
                by_cases hlt4 : t < j
                · obtain ⟨b, off, hx, hb, hcell⟩ := (HZ.out.below HF7.out.bel).at' (by omega)
                  subst hx
                  obtain ⟨c1, c2, c3⟩ := hcell t hlt4
                  have hok := HZ.out.ok t hlt4
                  have hmem := num_mem L t (by omega)
                  have n3 := HF7.out.row.told t hlt4
                  obtain ⟨x, hx⟩ : ∃ x, x = L.getD t lc0 := ⟨_, rfl⟩
                  have hq : numOf L t = ((tabOf L).idxOf x.id : Nat) := by rw [hx]; rfl
                  rw [hq] at n3
                  rw [← hx] at c1 c2 c3 hok hmem
                  have HK : Hid (x.Ok) := hok
                  have HI : Hid (x.id ∈ tabOf L) := hmem
                  have HCd : Hid (Core wr.drew B l s r p m (tabOf L) (.slice ka1 (tabOf L).length kc1) (.slice ma1 (tabOf L).length mc1)) := HF7.out.lo.core.kept (grown_drewN wr 1 none) (by simp)
                  have hlb : Hid (b < wr.drew.heap.size) := (show b < wr.heap.size from hb)
                  have hlg : Hid (g < wr.drew.heap.size) := (show g < wr.heap.size from HF7.out.row.lt)
                  have HS0 : Hid (wr.drew.cell? ⟨b, off + t * 3, none⟩ = some (.int .i32 x.key) ∧ wr.drew.cell? ⟨b, off + t * 3 + 1, none⟩ = some (.int .i64 x.v) ∧ wr.drew.cell? ⟨b, off + t * 3 + 2, none⟩ = some (.bool x.none) ∧ wr.drew.cell? ⟨g, t, none⟩ = some (.int .i32 ((tabOf L).idxOf x.id : Nat))) := ⟨c1, c2, c3, n3⟩
                  clear hx hcell hok hmem hq
                  generalize hQ : (tabOf L).idxOf x.id = q at *
                  have HQ : Hid ((tabOf L).idxOf x.id = q) := hQ
                  clear hQ
                  go_wp2_with fail
                  go_region_held3 (fun wx => wx.cell? ⟨b, off + t * 3, none⟩ = some (.int .i32 x.key) ∧ wx.cell? ⟨b, off + t * 3 + 1, none⟩ = some (.int .i64 x.v) ∧ wx.cell? ⟨b, off + t * 3 + 2, none⟩ = some (.bool x.none) ∧ wx.cell? ⟨g, t, none⟩ = some (.int .i32 (q : Nat))) (first | exact HS1.out | exact HS0.out)
                    ((go_at_call 11; refine (step_old B l s r p m _ _ _ x wr.drew HCd.out HK.out HI.out).mono ?_; rintro e wk ⟨rfl, hgk⟩; rw [HQ.out]; have HS1 : Hid (wk.cell? ⟨b, off + t * 3, none⟩ = some (.int .i32 x.key) ∧ wk.cell? ⟨b, off + t * 3 + 1, none⟩ = some (.int .i64 x.v) ∧ wk.cell? ⟨b, off + t * 3 + 2, none⟩ = some (.bool x.none) ∧ wk.cell? ⟨g, t, none⟩ = some (.int .i32 (q : Nat))) := ⟨(World.cell?_of_block (hgk.block b hlb.out (by simp))).trans HS0.out.1, (World.cell?_of_block (hgk.block b hlb.out (by simp))).trans HS0.out.2.1, (World.cell?_of_block (hgk.block b hlb.out (by simp))).trans HS0.out.2.2.1, (World.cell?_of_block (hgk.block g hlg.out (by simp))).trans HS0.out.2.2.2⟩; have HGK : Hid (wr.drew.grownBy wk none) := hgk; clear hgk))
                  have HGW : Hid (wr.grownBy wk none) := (grown_drewN wr 1 none).trans HGK.out
                  go_wp2
                  go_round
                  case rel => exact ⟨t + 1, by omega, by go_num, HF7.out.kept HGW.out, HU7.out.of (HGW.out.block h HU7.out.lt (by simp))⟩
                  case measure => simp [intOf]; omega
                · obtain rfl : t = j := by omega
                  go_wp2_with fail
                  refine (keys_of B l s r p m _ _ _ wr HF7.out.lo.core).mono ?_
                  rintro e w4 ⟨rfl, rfl⟩
                  go_wp2_with fail
                  refine (marks_of B l s r p m _ _ _ w4 HF7.out.lo.core).mono ?_
                  rintro e w5 ⟨rfl, rfl⟩
                  go_wp2
                  go_loopw [22] (fun i wx => ∃ u : Nat, u ≤ (tabOf L).length ∧ i = .int .i64 u ∧ Fin w' wx B l s r p m g t L ms (.slice ka1 (tabOf L).length kc1) (.slice ma1 (tabOf L).length mc1) ∧ RowU wx h (tabOf L).length (tabOf L).length M) (fun i _ => (tabOf L).length - (intOf i).toNat)
                  case atStart => exact ⟨0, Nat.zero_le _, rfl, HF7.out, HU7.out⟩
                  case round =>
                    obtain ⟨u, hu, rfl, hfin, hrow⟩ := hrel
                    clear HF7 HU7
                    have HF8 : Hid (Fin w' wr B l s r p m g t L ms (.slice ka1 (tabOf L).length kc1) (.slice ma1 (tabOf L).length mc1)) := hfin
                    have HU8 : Hid (RowU wr h (tabOf L).length (tabOf L).length M) := hrow
                    clear hfin hrow
                    by_cases hlt5 : u < (tabOf L).length
                    · obtain ⟨gm, cap, e, hcap, hgl, hcells⟩ := row_cells HF8.out.lo.marks (by omega)
                      simp only [Value.slice.injEq, true_and] at e
                      obtain ⟨rfl, rfl⟩ := e
                      have hml := HF8.out.lo.marks.1
                      have d0 := (hcells (u * 2) (by omega)).trans (HM.out (u * 2) (by omega))
                      have d1 := (hcells (u * 2 + 1) (by omega)).trans (HM.out (u * 2 + 1) (by omega))
                      have k0 := HU8.out.told (u * 2) (by omega)
                      have k1 := HU8.out.told (u * 2 + 1) (by omega)
                      have heq := eq36 (M (u * 2)) (M (u * 2 + 1))
                      clear hcells hml
                      go_wp2_with fail
                      go_quiet (fail)
                      go_wp2
                      exact ⟨⟨u + 1, by omega, by go_num, HF8.out.kept (grown_drewN _ _ _), HU8.out.of rfl⟩, by simp [intOf]; omega⟩
                    · obtain rfl : u = (tabOf L).length := by omega
                      go_wp2
                      go_ret
                      exact ⟨rfl, HF8.out.bel⟩
set_option maxRecDepth 100000 in
theorem law_mid (s1 s2 : Int) (a : Option Addr) (n c : Nat) (w : World) (hm : n ≤ 1048576) (hb : 4096 < n) :
    Calls Try.prog 3 #[.int .u64 s1, .int .u64 s2, .slice a n c] w fun e w' => e = .returned (.bool true) ∧ Below w.heap.size w w' := by
  have hd : decide ((4096 : Int) < (n : Int)) = true := decide_eq_true (by omega)
  go_enter Try.func3, Try.ntmps3
  go_wp2_with fail
  refine (bytesL s1 s2 a n c w hm).mono ?_
  rintro e w' ⟨rfl, rfl⟩
  go_wp2_with fail
  go_ret
  exact ⟨rfl, Below.refl _ _⟩

set_option maxRecDepth 100000 in
theorem law_big (s1 s2 : Int) (a : Option Addr) (n c : Nat) (w : World) (hm : 1048576 < n) :
    Calls Try.prog 3 #[.int .u64 s1, .int .u64 s2, .slice a n c] w fun e w' => e = .returned (.bool true) ∧ Below w.heap.size w w' := by
  go_enter Try.func3, Try.ntmps3
  go_wp2_with fail
  refine (bytesL_no s1 s2 a n c w hm).mono ?_
  rintro e w' ⟨rfl, rfl⟩
  go_wp2_with fail
  go_ret
  exact ⟨rfl, Below.refl _ _⟩
end Go.Proofs.Qxb6615561a
