/-
  The plain law of the counting layout of predecessors. No Go in sight.
-/
import Derived.Test.Qxb6603026aScc
namespace Go.Proofs.Qxb6603026a

/-- the first k edges out of step i -/
def rowEdges (g : Gr) (i : Nat) : Nat → List (Nat × Nat)
  | 0 => []
  | k + 1 => rowEdges g i k ++ [(i, g.nx i k)]
/-- the edges out of the steps below i -/
def edgesTo (g : Gr) : Nat → List (Nat × Nat)
  | 0 => []
  | i + 1 => edgesTo g i ++ rowEdges g i (g.deg i)
/-- how many lead to v -/
def cnt (E : List (Nat × Nat)) (v : Nat) : Nat := (E.filter fun e => decide (e.2 = v)).length
/-- how many lead below v -/
def below (E : List (Nat × Nat)) (v : Nat) : Nat := (E.filter fun e => decide (e.2 < v)).length

theorem cnt_append (E F : List (Nat × Nat)) (v : Nat) : cnt (E ++ F) v = cnt E v + cnt F v := by simp [cnt]
theorem cnt_snoc (E : List (Nat × Nat)) (i w v : Nat) : cnt (E ++ [(i, w)]) v = cnt E v + if v = w then 1 else 0 := by
  rw [cnt_append]
  by_cases h : v = w
  · simp [cnt, h]
  · simp [cnt, h, Ne.symm h]
theorem below_zero (E : List (Nat × Nat)) : below E 0 = 0 := by simp [below]
theorem below_succ (E : List (Nat × Nat)) (v : Nat) : below E (v + 1) = below E v + cnt E v := by
  induction E with
  | nil => simp [below, cnt]
  | cons e E ih =>
    unfold below cnt at *
    rcases Nat.lt_trichotomy e.2 v with h | h | h
    · rw [List.filter_cons_of_pos (by simp; omega), List.filter_cons_of_pos (by simp; omega), List.filter_cons_of_neg (by simp; omega)]
      simp only [List.length_cons]; omega
    · rw [List.filter_cons_of_pos (by simp; omega), List.filter_cons_of_neg (by simp; omega), List.filter_cons_of_pos (by simp; omega)]
      simp only [List.length_cons]; omega
    · rw [List.filter_cons_of_neg (by simp; omega), List.filter_cons_of_neg (by simp; omega), List.filter_cons_of_neg (by simp; omega)]
      exact ih
theorem below_le (E : List (Nat × Nat)) (v : Nat) : below E v ≤ E.length := List.length_filter_le _ _
theorem below_mono (E : List (Nat × Nat)) {u v : Nat} (h : u ≤ v) : below E u ≤ below E v := by
  induction v with
  | zero => have : u = 0 := by omega
            subst this; exact Nat.le_refl _
  | succ v ih =>
    by_cases e : u = v + 1
    · subst e; exact Nat.le_refl _
    · have := ih (by omega)
      rw [below_succ]; omega
theorem cnt_le_len (E : List (Nat × Nat)) (v : Nat) : cnt E v ≤ E.length := List.length_filter_le _ _

/-- the edges that have been gone through: all out of the steps below i, the first k out of step i -/
def gone (g : Gr) (i k : Nat) : List (Nat × Nat) := edgesTo g i ++ rowEdges g i k
theorem gone_step (g : Gr) (i k : Nat) : gone g i (k + 1) = gone g i k ++ [(i, g.nx i k)] := by simp [gone, rowEdges]
theorem gone_next (g : Gr) (i : Nat) : gone g (i + 1) 0 = gone g i (g.deg i) := by simp [gone, rowEdges, edgesTo]
theorem gone_zero (g : Gr) : gone g 0 0 = [] := rfl

theorem rowEdges_le {g : Gr} {i j k : Nat} (h : j ≤ k) : ∃ F, rowEdges g i k = rowEdges g i j ++ F := by
  induction k with
  | zero => have : j = 0 := by omega
            subst this; exact ⟨[], by simp⟩
  | succ k ih =>
    by_cases e : j = k + 1
    · subst e; exact ⟨[], by simp⟩
    · obtain ⟨F, hF⟩ := ih (by omega)
      exact ⟨F ++ [(i, g.nx i k)], by simp [rowEdges, hF]⟩
theorem edgesTo_le {g : Gr} {i j : Nat} (h : i ≤ j) : ∃ F, edgesTo g j = edgesTo g i ++ F := by
  induction j with
  | zero => have : i = 0 := by omega
            subst this; exact ⟨[], by simp⟩
  | succ j ih =>
    by_cases e : i = j + 1
    · subst e; exact ⟨[], by simp⟩
    · obtain ⟨F, hF⟩ := ih (by omega)
      exact ⟨F ++ rowEdges g j (g.deg j), by simp [edgesTo, hF]⟩
/-- what has been gone through is a head of all edges -/
theorem gone_head {g : Gr} {n i k : Nat} (hi : i < n) (hk : k ≤ g.deg i) : ∃ F, edgesTo g n = gone g i k ++ F := by
  obtain ⟨F1, h1⟩ := rowEdges_le (g := g) (i := i) hk
  obtain ⟨F2, h2⟩ := edgesTo_le (g := g) (i := i + 1) (j := n) (by omega)
  exact ⟨F1 ++ F2, by rw [h2, edgesTo, h1]; simp [gone]⟩
theorem mem_rowEdges {g : Gr} {i k u v : Nat} : (u, v) ∈ rowEdges g i k ↔ u = i ∧ ∃ j, j < k ∧ g.nx i j = v := by
  induction k with
  | zero => simp [rowEdges]
  | succ k ih =>
    rw [rowEdges, List.mem_append, ih]
    constructor
    · rintro (⟨rfl, j, hj, e⟩ | h)
      · exact ⟨rfl, j, by omega, e⟩
      · simp at h; exact ⟨h.1, k, by omega, h.2.symm⟩
    · rintro ⟨rfl, j, hj, e⟩
      by_cases ej : j = k
      · subst ej; right; simp [e]
      · exact .inl ⟨rfl, j, by omega, e⟩
theorem mem_edgesTo {g : Gr} {n u v : Nat} : (u, v) ∈ edgesTo g n ↔ u < n ∧ g.Edge u v := by
  induction n with
  | zero => simp [edgesTo]
  | succ n ih =>
    rw [edgesTo, List.mem_append, ih, mem_rowEdges]
    constructor
    · rintro (⟨a, b⟩ | ⟨rfl, j, hj, e⟩)
      · exact ⟨by omega, b⟩
      · exact ⟨by omega, j, hj, e⟩
    · rintro ⟨a, b⟩
      by_cases e : u = n
      · subst e; exact .inr ⟨rfl, b⟩
      · exact .inl ⟨by omega, b⟩
theorem rowEdges_length (g : Gr) (i k : Nat) : (rowEdges g i k).length = k := by
  induction k with
  | zero => rfl
  | succ k ih => simp [rowEdges, ih]

/-- the pred row so far: for each step, its cells so far hold just the sources gone through -/
def PredOk (T P : List (Nat × Nat)) (n : Nat) (pr : List Int) : Prop :=
  (∀ v, v < n → ∀ q, below T v ≤ q → q < below T v + cnt P v → ∃ u : Nat, at0 pr q = (u : Int) ∧ (u, v) ∈ P) ∧
    ∀ u v : Nat, v < n → (u, v) ∈ P → ∃ q, below T v ≤ q ∧ q < below T v + cnt P v ∧ at0 pr q = (u : Int)

theorem PredOk.start (T : List (Nat × Nat)) (n : Nat) (pr : List Int) : PredOk T [] n pr :=
  ⟨fun v _ q h1 h2 => by simp [cnt] at h2; omega, fun u v _ h => by cases h⟩

theorem PredOk.step {T P F : List (Nat × Nat)} {n i w : Nat} {pr : List Int} (hT : T = P ++ [(i, w)] ++ F) (hw : w < n) (hl : pr.length = below T n) (h : PredOk T P n pr) :
    below T w + cnt P w < pr.length ∧ PredOk T (P ++ [(i, w)]) n (pr.set (below T w + cnt P w) (i : Int)) := by
  have hcT : ∀ v, cnt T v = cnt P v + (if v = w then 1 else 0) + cnt F v := fun v => by rw [hT, cnt_append, cnt_snoc]
  have hlt : below T w + cnt P w < below T (w + 1) := by
    rw [below_succ, hcT, if_pos rfl]; omega
  have hlt2 : below T w + cnt P w < pr.length := by rw [hl]; exact Nat.lt_of_lt_of_le hlt (below_mono T (by omega))
  -- the new place lies in no other step's cells
  have hfar : ∀ v, v ≠ w → ∀ q, below T v ≤ q → q < below T v + cnt P v → q ≠ below T w + cnt P w := by
    intro v hv q h1 h2 e
    rcases Nat.lt_or_ge v w with hlt' | hge
    · have a := below_mono T (u := v + 1) (v := w) (by omega)
      rw [below_succ, hcT] at a
      omega
    · have a := below_mono T (u := w + 1) (v := v) (by omega)
      omega
  refine ⟨hlt2, fun v hv q h1 h2 => ?_, fun u v hv hm => ?_⟩
  · by_cases e : q = below T w + cnt P w
    · subst e
      by_cases ev : v = w
      · subst ev
        exact ⟨i, at0_set_self hlt2, by simp⟩
      · rw [cnt_snoc, if_neg ev] at h2
        exact absurd rfl (hfar v ev _ h1 (by omega))
    · rw [at0_set_other e]
      have h3 : q < below T v + cnt P v := by
        by_cases ev : v = w
        · subst ev; rw [cnt_snoc, if_pos rfl] at h2; omega
        · rw [cnt_snoc, if_neg ev] at h2; omega
      obtain ⟨u, a, b⟩ := h.1 v hv q h1 h3
      exact ⟨u, a, by simp [b]⟩
  · rcases List.mem_append.1 hm with hm | hm
    · obtain ⟨q, a, b, c⟩ := h.2 u v hv hm
      refine ⟨q, a, by rw [cnt_snoc]; omega, ?_⟩
      by_cases ev : v = w
      · subst ev; rw [at0_set_other (by omega)]; exact c
      · rw [at0_set_other (hfar v ev q a b)]; exact c
    · simp at hm
      obtain ⟨rfl, rfl⟩ := hm
      exact ⟨below T v + cnt P v, by omega, by rw [cnt_snoc, if_pos rfl]; omega, at0_set_self hlt2⟩

/-- what predecessors hands back: the cells of step v hold just the steps with an edge to v -/
def PredSpec (g : Gr) (st pr : List Int) : Prop :=
  st = fl (g.n + 1) (below (edgesTo g g.n)) ∧ pr.length = below (edgesTo g g.n) g.n ∧
    (∀ v, v < g.n → ∀ q, below (edgesTo g g.n) v ≤ q → q < below (edgesTo g g.n) (v + 1) → ∃ u : Nat, at0 pr q = (u : Int) ∧ u < g.n ∧ g.Edge u v) ∧
    ∀ u v : Nat, u < g.n → v < g.n → g.Edge u v → ∃ q, below (edgesTo g g.n) v ≤ q ∧ q < below (edgesTo g g.n) (v + 1) ∧ at0 pr q = (u : Int)

theorem predSpec_of {g : Gr} {pr : List Int} (hl : pr.length = below (edgesTo g g.n) g.n) (h : PredOk (edgesTo g g.n) (edgesTo g g.n) g.n pr) : PredSpec g (fl (g.n + 1) (below (edgesTo g g.n))) pr := by
  refine ⟨rfl, hl, fun v hv q h1 h2 => ?_, fun u v hu hv he => ?_⟩
  · rw [below_succ] at h2
    obtain ⟨u, a, b⟩ := h.1 v hv q h1 h2
    exact ⟨u, a, mem_edgesTo.1 b⟩
  · rw [below_succ]
    exact h.2 u v hv (mem_edgesTo.2 ⟨hu, he⟩)

end Go.Proofs.Qxb6603026a
