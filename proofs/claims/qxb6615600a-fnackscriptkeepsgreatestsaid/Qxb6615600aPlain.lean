/-
  THE PLAIN PART of the script law. Nothing of the dump.
-/
namespace Go.Proofs.Qxb6615600a.Plain

/-- One acknowledgement. -/
structure Sp where
  n : Int
  b : Int
  e : Int

/-- What an acks holds: the position, its span, whether a token waits. -/
structure St where
  n : Int
  b : Int
  e : Int
  k : Bool

def sp0 : Sp := ⟨0, 0, 0⟩

def step (s : St) (x : Sp) : St := if s.n < x.n then ⟨x.n, x.b, x.e, true⟩ else s
def runS (s : St) (l : List Sp) : St := l.foldl step s
def up (g : Int) (x : Sp) : Int := if g < x.n then x.n else g
def gm (g : Int) (l : List Sp) : Int := l.foldl up g

theorem runS_append (s : St) (a b : List Sp) : runS s (a ++ b) = runS (runS s a) b := by simp [runS]
theorem gm_append (g : Int) (a b : List Sp) : gm g (a ++ b) = gm (gm g a) b := by simp [gm]

theorem run_n (l : List Sp) : ∀ s : St, (runS s l).n = gm s.n l := by
  induction l with
  | nil => intro s; rfl
  | cons x r ih =>
    intro s
    have h := ih (step s x)
    simp only [runS, gm, List.foldl_cons] at h ⊢
    rw [h]
    congr 1
    unfold step up
    split <;> rfl

theorem gm_ge (l : List Sp) : ∀ g, g ≤ gm g l := by
  induction l with
  | nil => intro g; exact Int.le_refl _
  | cons x r ih =>
    intro g
    have h := ih (up g x)
    have h2 : g ≤ up g x := by unfold up; split <;> omega
    simp only [gm, List.foldl_cons] at h ⊢
    omega

theorem gm_all (l : List Sp) : ∀ g, ∀ x ∈ l, x.n ≤ gm g l := by
  induction l with
  | nil => intro g x hx; cases hx
  | cons y r ih =>
    intro g x hx
    simp only [gm, List.foldl_cons]
    rcases List.mem_cons.1 hx with rfl | hx
    · have h := gm_ge r (up g x)
      have h2 : x.n ≤ up g x := by unfold up; split <;> omega
      simp only [gm] at h
      omega
    · exact ih (up g y) x hx

/-- The greatest is the start or one of the list. -/
theorem gm_mem (l : List Sp) : ∀ g, gm g l = g ∨ ∃ x ∈ l, x.n = gm g l := by
  induction l with
  | nil => intro g; exact .inl rfl
  | cons y r ih =>
    intro g
    simp only [gm, List.foldl_cons]
    rcases ih (up g y) with h | ⟨x, hx, hxn⟩
    · simp only [gm] at h
      by_cases hy : g < y.n
      · right
        refine ⟨y, List.mem_cons_self .., ?_⟩
        rw [h]; unfold up; rw [if_pos hy]
      · left
        rw [h]; unfold up; rw [if_neg hy]
    · exact .inr ⟨x, List.mem_cons_of_mem _ hx, hxn⟩

/-- Where nothing passes the position nothing changes. -/
theorem run_same (l : List Sp) (s : St) (h : ∀ x ∈ l, x.n ≤ s.n) : runS s l = s := by
  induction l with
  | nil => rfl
  | cons x r ih =>
    have h1 : step s x = s := by unfold step; rw [if_neg (by have := h x (List.mem_cons_self ..); omega)]
    show runS (step s x) r = s
    rw [h1]
    exact ih fun y hy => h y (List.mem_cons_of_mem _ hy)

theorem split_at (l : List Sp) (j : Nat) (hj : j < l.length) : l = l.take j ++ l.getD j sp0 :: l.drop (j + 1) := by
  have h := List.take_append_drop j l
  rw [List.drop_eq_getElem_cons hj] at h
  have e : l.getD j sp0 = l[j] := by simp [hj]
  rw [e]; exact h.symm

/-- The first that reaches the greatest gives the span. -/
theorem run_first (l : List Sp) (s : St) (j : Nat) (hj : j < l.length) (hg : s.n < gm s.n l) (hn : (l.getD j sp0).n = gm s.n l) (hfirst : ∀ i, i < j → (l.getD i sp0).n ≠ gm s.n l) :
    runS s l = ⟨gm s.n l, (l.getD j sp0).b, (l.getD j sp0).e, true⟩ := by
  have hall := gm_all l s.n
  have hmem : ∀ i, i < l.length → l.getD i sp0 ∈ l := fun i hi => by simp [hi]
  -- what stands behind the first j steps
  have h1 : (runS s (l.take j)).n < gm s.n l := by
    rw [run_n]
    rcases gm_mem (l.take j) s.n with h | ⟨x, hx, hxn⟩
    · omega
    · rw [← hxn]
      obtain ⟨i, hi, rfl⟩ := List.getElem_of_mem hx
      simp only [List.length_take] at hi
      have e : (l.take j)[i] = l.getD i sp0 := by simp [show i < l.length by omega]
      have hx2 := hfirst i (by omega)
      have hx3 := hall (l.getD i sp0) (hmem i (by omega))
      rw [e]; omega
  conv => lhs; rw [split_at l j hj]
  rw [runS_append]
  show runS (step (runS s (l.take j)) (l.getD j sp0)) (l.drop (j + 1)) = _
  have h2 : step (runS s (l.take j)) (l.getD j sp0) = ⟨gm s.n l, (l.getD j sp0).b, (l.getD j sp0).e, true⟩ := by
    unfold step
    rw [if_pos (by rw [hn]; exact h1), hn]
  rw [h2]
  refine run_same _ _ fun x hx => ?_
  exact hall x (List.mem_of_mem_drop hx)

/-- Somebody reaches it. -/
theorem gm_reached (l : List Sp) (g : Int) (hg : g < gm g l) : ¬ ∀ i, i < l.length → (l.getD i sp0).n ≠ gm g l := by
  intro h
  rcases gm_mem l g with h1 | ⟨x, hx, hxn⟩
  · omega
  · obtain ⟨i, hi, rfl⟩ := List.getElem_of_mem hx
    exact h i hi (by simpa [hi] using hxn)

theorem run_low (l : List Sp) (s : St) (hg : ¬ s.n < gm s.n l) : runS s l = s := by
  refine run_same l s fun x hx => ?_
  have := gm_all l s.n x hx
  omega

theorem take_snoc (l : List Sp) (k : Nat) (h : k < l.length) : l.take (k + 1) = l.take k ++ [l.getD k sp0] := by
  rw [List.take_succ_eq_append_getElem h]; simp [h]

theorem run_snoc (s : St) (l : List Sp) (k : Nat) (h : k < l.length) : runS s (l.take (k + 1)) = step (runS s (l.take k)) (l.getD k sp0) := by
  rw [take_snoc l k h, runS_append]; rfl
theorem gm_snoc (g : Int) (l : List Sp) (k : Nat) (h : k < l.length) : gm g (l.take (k + 1)) = up (gm g (l.take k)) (l.getD k sp0) := by
  rw [take_snoc l k h, gm_append]; rfl
end Go.Proofs.Qxb6615600a.Plain
