/-
  THE PLAIN PART: white space, separators, the gap ahead of a token, on lists of numbers. Nothing of the dump.
-/
namespace Go.Proofs.Qxb6615118a.Plain

def isSp (c : Int) : Bool := c == 32 || c == 9 || c == 10 || c == 13
def isSep (c : Int) : Bool := c == 44 || c == 58

/-- How many blanks stand at the head. -/
def skip : List Int → Nat
  | [] => 0
  | c :: r => if isSp c then skip r + 1 else 0

/-- The place of the first byte of the token. -/
def tok (l : List Int) : Nat :=
  if skip l < l.length ∧ isSep (l.getD (skip l) 0) = true then skip l + 1 + skip (l.drop (skip l + 1)) else skip l

def cnt (l : List Int) : Nat := (l.filter isSep).length

theorem skip_le (l : List Int) : skip l ≤ l.length := by
  induction l with
  | nil => simp [skip]
  | cons c r ih => simp only [skip]; split <;> simp <;> omega

theorem skip_sp (l : List Int) : ∀ i, i < skip l → isSp (l.getD i 0) = true := by
  induction l with
  | nil => intro i h; simp [skip] at h
  | cons c r ih =>
    intro i h
    simp only [skip] at h
    split at h
    · rename_i hc
      cases i with
      | zero => simpa using hc
      | succ j => simpa using ih j (by omega)
    · omega

theorem skip_end (l : List Int) : skip l < l.length → isSp (l.getD (skip l) 0) = false := by
  induction l with
  | nil => intro h; simp [skip] at h
  | cons c r ih =>
    intro h
    simp only [skip] at h ⊢
    split
    · rename_i hc
      rw [if_pos hc] at h
      simpa using ih (by simpa using h)
    · rename_i hc
      simpa using hc

theorem drop_cons (l : List Int) (k : Nat) (h : k < l.length) : l.drop k = l.getD k 0 :: l.drop (k + 1) := by
  rw [List.drop_eq_getElem_cons h]
  simp [h]

theorem skip_step (l : List Int) (k : Nat) (h : k < l.length) (hs : isSp (l.getD k 0) = true) : skip (l.drop k) = skip (l.drop (k + 1)) + 1 := by
  rw [drop_cons l k h, skip, if_pos hs]

theorem skip_stop (l : List Int) (k : Nat) (h : k < l.length) (hs : isSp (l.getD k 0) = false) : skip (l.drop k) = 0 := by
  rw [drop_cons l k h, skip, if_neg (by rw [hs]; exact Bool.false_ne_true)]

theorem skip_past (l : List Int) (k : Nat) (h : l.length ≤ k) : skip (l.drop k) = 0 := by
  rw [List.drop_eq_nil_of_le h]; rfl

theorem getD_drop (l : List Int) (a i : Nat) : (l.drop a).getD i 0 = l.getD (a + i) 0 := by
  simp [List.getD_eq_getElem?_getD, List.getElem?_drop]

theorem sp_not_sep {c : Int} (h : isSp c = true) : isSep c = false := by
  simp [isSp, isSep] at h ⊢; omega

theorem tok_le (l : List Int) : tok l ≤ l.length := by
  have h1 := skip_le l
  have h2 := skip_le (l.drop (skip l + 1))
  unfold tok
  split
  · simp at h2; omega
  · exact h1

theorem cnt_zero (l : List Int) (h : ∀ i, i < l.length → isSep (l.getD i 0) = false) : cnt l = 0 := by
  unfold cnt
  rw [List.length_eq_zero_iff, List.filter_eq_nil_iff]
  intro a ha
  obtain ⟨i, hi, rfl⟩ := List.getElem_of_mem ha
  have := h i hi
  simp [hi] at this
  simp [this]

theorem cnt_append (a b : List Int) : cnt (a ++ b) = cnt a + cnt b := by simp [cnt]

theorem take_snoc (l : List Int) (k : Nat) (h : k < l.length) : l.take (k + 1) = l.take k ++ [l.getD k 0] := by
  rw [List.take_succ_eq_append_getElem h]; simp [h]

theorem cnt_snoc (l : List Int) (k : Nat) (h : k < l.length) : cnt (l.take (k + 1)) = cnt (l.take k) + if isSep (l.getD k 0) = true then 1 else 0 := by
  rw [take_snoc l k h, cnt_append]
  congr 1
  unfold cnt
  generalize l.getD k 0 = x
  by_cases hs : isSep x = true
  · simp [hs]
  · simp only [Bool.not_eq_true] at hs; simp [hs]

/-- The first l bytes are the longest gap at the head: blanks and at most one separator, and one byte more is no gap. -/
structure Gap (zs : List Int) (l : Nat) : Prop where
  le : l ≤ zs.length
  all : ∀ i, i < l → isSep (zs.getD i 0) = false → isSp (zs.getD i 0) = true
  one : cnt (zs.take l) ≤ 1
  notSp : l < zs.length → isSp (zs.getD l 0) = false
  notSep : l < zs.length → isSep (zs.getD l 0) = true → cnt (zs.take l) ≠ 0

theorem cnt_take_zero (zs : List Int) (l : Nat) (h : ∀ i, i < l → isSp (zs.getD i 0) = true) : cnt (zs.take l) = 0 := by
  refine cnt_zero _ fun i hi => ?_
  have hi2 : i < l := by simp at hi; omega
  have := sp_not_sep (h i hi2)
  simpa [List.getD_eq_getElem?_getD, List.getElem?_take, hi2] using this

theorem gap_tok (zs : List Int) : Gap zs (tok zs) := by
  have h1 := skip_le zs
  have hsp := skip_sp zs
  have hc0 := cnt_take_zero zs (skip zs) hsp
  refine ⟨tok_le zs, ?_, ?_, ?_, ?_⟩ <;> unfold tok <;> split
  · rename_i h
    intro i hi hns
    by_cases h2 : i < skip zs
    · exact hsp i h2
    · by_cases h3 : i = skip zs
      · subst h3; rw [h.2] at hns; cases hns
      · have := skip_sp (zs.drop (skip zs + 1)) (i - (skip zs + 1)) (by omega)
        rw [getD_drop] at this
        rwa [show skip zs + 1 + (i - (skip zs + 1)) = i by omega] at this
  · intro i hi _; exact hsp i hi
  · rename_i h
    have e : zs.take (skip zs + 1 + skip (zs.drop (skip zs + 1))) = zs.take (skip zs + 1) ++ (zs.drop (skip zs + 1)).take (skip (zs.drop (skip zs + 1))) := by
      rw [List.take_add]
    rw [e, cnt_append, cnt_snoc zs _ h.1, hc0, if_pos h.2, cnt_take_zero _ _ (skip_sp _)]
    omega
  · omega
  · rename_i h
    intro hl
    have := skip_end (zs.drop (skip zs + 1)) (by simp; omega)
    rwa [getD_drop] at this
  · exact skip_end zs
  · rename_i h
    intro hl _
    have e : zs.take (skip zs + 1 + skip (zs.drop (skip zs + 1))) = zs.take (skip zs + 1) ++ (zs.drop (skip zs + 1)).take (skip (zs.drop (skip zs + 1))) := by
      rw [List.take_add]
    rw [e, cnt_append, cnt_snoc zs _ h.1, hc0, if_pos h.2]
    omega
  · rename_i h
    intro hl hs
    exact absurd ⟨hl, hs⟩ h

/-! ### More input behind -/
theorem skip_append (l m : List Int) : skip (l ++ m) = if skip l < l.length then skip l else l.length + skip m := by
  induction l with
  | nil => simp [skip]
  | cons c r ih =>
    simp only [List.cons_append, skip, ih, List.length_cons]
    by_cases hc : isSp c = true
    · simp only [if_pos hc]
      by_cases h : skip r < r.length
      · rw [if_pos h, if_pos (by omega)]
      · rw [if_neg h, if_neg (by omega)]; omega
    · simp [hc]

theorem getD_append_left (l m : List Int) (i : Nat) (h : i < l.length) : (l ++ m).getD i 0 = l.getD i 0 := by
  simp [List.getD_eq_getElem?_getD, List.getElem?_append, h]

theorem tok_more (l m : List Int) (h : tok l < l.length) : tok (l ++ m) = tok l := by
  have h1 := skip_le l
  by_cases hc : skip l < l.length ∧ isSep (l.getD (skip l) 0) = true
  · have e : tok l = skip l + 1 + skip (l.drop (skip l + 1)) := by unfold tok; rw [if_pos hc]
    rw [e] at h ⊢
    have es : skip (l ++ m) = skip l := by rw [skip_append, if_pos hc.1]
    unfold tok
    rw [es, getD_append_left l m _ hc.1, if_pos ⟨by simp; omega, hc.2⟩]
    rw [List.drop_append_of_le_length (by omega), skip_append, if_pos (by simp; omega)]
  · have e : tok l = skip l := by unfold tok; rw [if_neg hc]
    rw [e] at h ⊢
    have es : skip (l ++ m) = skip l := by rw [skip_append, if_pos h]
    unfold tok
    rw [es, getD_append_left l m _ h, if_neg]
    intro h2
    exact hc ⟨h, h2.2⟩

theorem tok_grows (l m : List Int) (h : tok l = l.length) : tok l ≤ tok (l ++ m) := by
  by_cases hc : skip l < l.length ∧ isSep (l.getD (skip l) 0) = true
  · have e : tok l = skip l + 1 + skip (l.drop (skip l + 1)) := by unfold tok; rw [if_pos hc]
    have es : skip (l ++ m) = skip l := by rw [skip_append, if_pos hc.1]
    have e2 : tok (l ++ m) = skip l + 1 + skip ((l ++ m).drop (skip l + 1)) := by
      unfold tok
      rw [es, getD_append_left l m _ hc.1, if_pos ⟨by simp; omega, hc.2⟩]
    rw [e2, List.drop_append_of_le_length (by omega), skip_append, if_neg (by simp; omega)]
    simp; omega
  · have e : tok l = skip l := by unfold tok; rw [if_neg hc]
    have es : l.length ≤ skip (l ++ m) := by rw [skip_append, if_neg (by omega)]; omega
    rw [h]
    unfold tok
    split <;> omega

end Go.Proofs.Qxb6615118a.Plain
