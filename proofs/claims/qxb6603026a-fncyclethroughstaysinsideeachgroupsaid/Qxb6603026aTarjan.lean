/-
  The plain law of Tarjan's walk with its recursion kept in a list: states, the invariant, and that each move keeps it. No Go in sight.
-/
namespace Go.Proofs.Qxb6603026a

/-- a graph: nodes 0 .. n-1, deg v edges out of v, the k-th to nx v k -/
structure Gr where
  n : Nat
  deg : Nat → Nat
  nx : Nat → Nat → Nat

namespace Gr
def Edge (g : Gr) (a b : Nat) : Prop := ∃ k, k < g.deg a ∧ g.nx a k = b
def RN (g : Gr) : Nat → Nat → Nat → Prop
  | 0, a, b => a = b
  | t + 1, a, b => ∃ c, g.Edge a c ∧ RN g t c b
def Reach (g : Gr) (a b : Nat) : Prop := ∃ t, g.RN t a b
/-- every edge leads to a node -/
def Ok (g : Gr) : Prop := ∀ v, v < g.n → ∀ k, k < g.deg v → g.nx v k < g.n

theorem Reach.refl (g : Gr) (a : Nat) : g.Reach a a := ⟨0, rfl⟩
theorem RN.trans {g : Gr} {t u a b c : Nat} (h : g.RN t a b) (h' : g.RN u b c) : g.RN (t + u) a c := by
  induction t generalizing a with
  | zero => simp only [RN] at h; subst h; simpa using h'
  | succ t ih =>
    obtain ⟨x, e, r⟩ := h
    have : t + 1 + u = (t + u) + 1 := by omega
    rw [this]
    exact ⟨x, e, ih r⟩
theorem Reach.trans {g : Gr} {a b c : Nat} (h : g.Reach a b) (h' : g.Reach b c) : g.Reach a c := by
  obtain ⟨t, h⟩ := h
  obtain ⟨u, h'⟩ := h'
  exact ⟨t + u, h.trans h'⟩
theorem Reach.edge {g : Gr} {a b : Nat} (h : g.Edge a b) : g.Reach a b := ⟨1, b, h, rfl⟩
theorem Reach.of_nx {g : Gr} {a k : Nat} (h : k < g.deg a) : g.Reach a (g.nx a k) := Reach.edge ⟨k, h, rfl⟩
end Gr

/-- when a list of nodes met v, from 1; 0: not met -/
def ordOf (p : List Nat) (v : Nat) : Nat := if v ∈ p then p.idxOf v + 1 else 0

theorem ordOf_pos {p : List Nat} {v : Nat} : 0 < ordOf p v ↔ v ∈ p := by
  unfold ordOf; split <;> simp_all
theorem ordOf_zero {p : List Nat} {v : Nat} : ordOf p v = 0 ↔ v ∉ p := by
  unfold ordOf; split <;> simp_all
theorem ordOf_le {p : List Nat} {v : Nat} : ordOf p v ≤ p.length := by
  unfold ordOf
  split
  · rename_i h; have := List.idxOf_lt_length_iff.2 h; omega
  · omega
theorem ordOf_inj {p : List Nat} {u v : Nat} (hu : u ∈ p) (h : ordOf p u = ordOf p v) : u = v := by
  have hv : v ∈ p := by rw [← ordOf_pos, ← h, ordOf_pos]; exact hu
  simp only [ordOf, hu, hv, if_true] at h
  have h' : p.idxOf u = p.idxOf v := by omega
  have e1 := List.getElem_idxOf (List.idxOf_lt_length_iff.2 hu)
  have e2 := List.getElem_idxOf (List.idxOf_lt_length_iff.2 hv)
  rw [← e1, ← e2]
  simp only [h']
theorem ordOf_append_old {p : List Nat} {i v : Nat} (hv : v ≠ i) : ordOf (p ++ [i]) v = ordOf p v := by
  unfold ordOf
  by_cases h : v ∈ p
  · rw [if_pos (by simp [h]), if_pos h, List.idxOf_append, if_pos h]
  · rw [if_neg (by simp [h, hv]), if_neg h]
theorem ordOf_append_mem {p : List Nat} {i v : Nat} (hv : v ∈ p) : ordOf (p ++ [i]) v = ordOf p v := by
  unfold ordOf
  rw [if_pos (by simp [hv]), if_pos hv, List.idxOf_append, if_pos hv]
theorem ordOf_append_new {p : List Nat} {i : Nat} (h : i ∉ p) : ordOf (p ++ [i]) i = p.length + 1 := by
  unfold ordOf
  rw [if_pos (by simp), List.idxOf_append, if_neg h]
  simp

def upd {α : Type} (f : Nat → α) (i : Nat) (x : α) : Nat → α := fun j => if j = i then x else f j
theorem upd_self {α : Type} (f : Nat → α) (i : Nat) (x : α) : upd f i x i = x := by simp [upd]
theorem upd_other {α : Type} {f : Nat → α} {i j : Nat} {x : α} (h : j ≠ i) : upd f i x j = f j := by simp [upd, h]

/-- the walk's state: met nodes in order, finished nodes in order, low links, the stack, the frames, the groups -/
structure TS where
  pre : List Nat
  fin : List Nat
  low : Nat → Nat
  stk : List Nat
  wlk : List (Nat × Nat)
  grs : List (List Nat)

namespace TS
/-- the node's number -/
def ord (s : TS) (v : Nat) : Nat := ordOf s.pre v
/-- a node is met -/
def visit (s : TS) (i : Nat) : TS :=
  { s with pre := s.pre ++ [i], low := upd s.low i (s.pre.length + 1), stk := s.stk ++ [i], wlk := s.wlk ++ [(i, 0)] }
/-- the k-th edge out of x has been looked at -/
def Scanned (g : Gr) (s : TS) (x k : Nat) : Prop := k < g.deg x ∧ ∀ q ∈ s.wlk, q.1 = x → k < q.2
/-- q is the last frame whose node was met no later than x -/
def Owner (s : TS) (q : Nat × Nat) (x : Nat) : Prop := q ∈ s.wlk ∧ s.ord q.1 ≤ s.ord x ∧ ∀ q' ∈ s.wlk, s.ord q'.1 ≤ s.ord x → s.ord q'.1 ≤ s.ord q.1
end TS

structure TInv (g : Gr) (s : TS) : Prop where
  nd : s.pre.Nodup
  lt : ∀ v ∈ s.pre, v < g.n
  cover : ∀ v, v ∈ s.pre ↔ (v ∈ s.stk ∨ ∃ c ∈ s.grs, v ∈ c)
  disj : ∀ v ∈ s.stk, ∀ c ∈ s.grs, v ∉ c
  gdisj : s.grs.Pairwise (fun c c' => ∀ v ∈ c, v ∉ c')
  gnd : ∀ c ∈ s.grs, c.Nodup ∧ c ≠ []
  srt : s.stk.Pairwise (fun a b => s.ord a < s.ord b)
  wst : ∀ q ∈ s.wlk, q.1 ∈ s.stk ∧ q.2 ≤ g.deg q.1
  wsrt : s.wlk.Pairwise (fun a b => s.ord a.1 < s.ord b.1)
  up : ∀ x ∈ s.stk, ∀ y ∈ s.stk, s.ord x ≤ s.ord y → g.Reach x y
  dn : ∀ y ∈ s.stk, ∃ q ∈ s.wlk, s.ord q.1 ≤ s.ord y ∧ g.Reach y q.1
  blk : ∀ v ∈ s.pre, (∀ q ∈ s.wlk, q.1 ≠ v) → ∀ k, k < g.deg v → g.nx v k ∈ s.pre
  gry : ∀ q ∈ s.wlk, ∀ k, k < q.2 → g.nx q.1 k ∈ s.pre
  lo : ∀ q ∈ s.wlk, s.low q.1 ≤ s.ord q.1 ∧ ∃ u ∈ s.stk, s.ord u = s.low q.1 ∧ g.Reach q.1 u
  own : ∀ x ∈ s.stk, ∀ k, s.Scanned g x k → g.nx x k ∈ s.stk → ∀ q : Nat × Nat, s.Owner q x → s.low q.1 ≤ s.ord (g.nx x k)
  grp : ∀ c ∈ s.grs, ∀ x ∈ c, ∀ y ∈ c, g.Reach x y
  ged : ∀ (i : Nat) (c : List Nat), s.grs[i]? = some c → ∀ v ∈ c, ∀ k, k < g.deg v → ∃ (j : Nat) (c' : List Nat), j ≤ i ∧ s.grs[j]? = some c' ∧ g.nx v k ∈ c'

namespace TInv
variable {g : Gr} {s : TS}

theorem stk_pre (h : TInv g s) {v : Nat} (hv : v ∈ s.stk) : v ∈ s.pre := (h.cover v).2 (.inl hv)
theorem stk_nodup (h : TInv g s) : s.stk.Nodup := by
  have := h.srt
  exact this.imp (fun hab e => by subst e; omega)
theorem wlk_inj (h : TInv g s) {q q' : Nat × Nat} (hq : q ∈ s.wlk) (hq' : q' ∈ s.wlk) (e : q.1 = q'.1) : q = q' := by
  have hw := h.wsrt
  generalize s.wlk = l at hq hq' hw
  induction l with
  | nil => cases hq
  | cons a l ih =>
    rw [List.pairwise_cons] at hw
    rcases List.mem_cons.1 hq with rfl | hq1 <;> rcases List.mem_cons.1 hq' with rfl | hq1'
    · rfl
    · have := hw.1 q' hq1'; rw [e] at this; omega
    · have := hw.1 q hq1; rw [e] at this; omega
    · exact ih hq1 hq1' hw.2
/-- the top frame's node is the latest met of the frames' nodes -/
theorem top_max (h : TInv g s) {ws : List (Nat × Nat)} {i k : Nat} (e : s.wlk = ws ++ [(i, k)]) : ∀ q ∈ s.wlk, s.ord q.1 ≤ s.ord i := by
  have hw := h.wsrt
  rw [e, List.pairwise_append] at hw
  intro q hq
  rw [e] at hq
  rcases List.mem_append.1 hq with hq | hq
  · exact Nat.le_of_lt (hw.2.2 q hq (i, k) (by simp))
  · simp at hq; subst hq; exact Nat.le_refl _
/-- every node of the stack leads to the top frame's node -/
theorem to_top (h : TInv g s) {ws : List (Nat × Nat)} {i k : Nat} (e : s.wlk = ws ++ [(i, k)]) {y : Nat} (hy : y ∈ s.stk) : g.Reach y i := by
  obtain ⟨q, hq, _, hr⟩ := h.dn y hy
  have hi : i ∈ s.stk := (h.wst (i, k) (by rw [e]; simp)).1
  exact hr.trans (h.up q.1 (h.wst q hq).1 i hi (h.top_max e q hq))
/-- with no frames the stack is empty -/
theorem stk_nil (h : TInv g s) (e : s.wlk = []) : s.stk = [] := by
  rcases hs : s.stk with _ | ⟨y, l⟩
  · rfl
  · obtain ⟨q, hq, _⟩ := h.dn y (by rw [hs]; simp)
    rw [e] at hq; cases hq

end TInv

theorem inv_start (g : Gr) (low : Nat → Nat) : TInv g ⟨[], [], low, [], [], []⟩ where
  nd := List.nodup_nil
  lt := by simp
  cover := by simp
  disj := by simp
  gdisj := List.Pairwise.nil
  gnd := by simp
  srt := List.Pairwise.nil
  wst := by simp
  wsrt := List.Pairwise.nil
  up := by simp
  dn := by simp
  blk := by simp
  gry := by simp
  lo := by simp
  own := by simp
  grp := by simp
  ged := by simp

/-- a new node is met: from nowhere (no frames), or along an edge of the top frame -/
theorem TInv.visit {g : Gr} {s : TS} (h : TInv g s) {j : Nat} (hj : j < g.n) (hnew : j ∉ s.pre)
    (hto : ∀ y ∈ s.stk, g.Reach y j)
    (hsc : ∀ x ∈ s.stk, ∀ k, s.Scanned g x k → g.nx x k = j → False) : TInv g (s.visit j) := by
  have hold : ∀ v, v ∈ s.pre → (s.visit j).ord v = s.ord v := fun v hv => ordOf_append_mem hv
  have hne : ∀ v, v ∈ s.pre → v ≠ j := fun v hv e => hnew (e ▸ hv)
  have hjo : (s.visit j).ord j = s.pre.length + 1 := ordOf_append_new hnew
  have hle : ∀ v, s.ord v ≤ s.pre.length := fun v => ordOf_le
  have hwp : ∀ q ∈ s.wlk, q.1 ∈ s.pre := fun q hq => h.stk_pre (h.wst q hq).1
  have hlow : ∀ v, v ∈ s.pre → (s.visit j).low v = s.low v := fun v hv => upd_other (hne v hv)
  have hjs : j ∉ s.stk := fun hh => hnew (h.stk_pre hh)
  have hstk : ∀ v, v ∈ (s.visit j).stk ↔ v ∈ s.stk ∨ v = j := fun v => by simp [TS.visit]
  have hwlk : ∀ q, q ∈ (s.visit j).wlk ↔ q ∈ s.wlk ∨ q = (j, 0) := fun q => by simp [TS.visit]
  have hpre : ∀ v, v ∈ (s.visit j).pre ↔ v ∈ s.pre ∨ v = j := fun v => by simp [TS.visit]
  refine ⟨?_, ?_, ?_, ?_, h.gdisj, h.gnd, ?_, ?_, ?_, ?_, ?_, ?_, ?_, ?_, ?_, h.grp, h.ged⟩
  · -- nd
    show (s.pre ++ [j]).Nodup
    rw [List.nodup_append]
    refine ⟨h.nd, by simp, fun a ha b hb => ?_⟩
    simp at hb; subst hb; exact hne a ha
  · intro v hv
    rcases (hpre v).1 hv with hv | rfl
    · exact h.lt v hv
    · exact hj
  · intro v
    rw [hpre, hstk, h.cover]
    show _ ↔ (_ ∨ _) ∨ ∃ c ∈ s.grs, v ∈ c
    constructor
    · rintro ((a | a) | a)
      · exact .inl (.inl a)
      · exact .inr a
      · exact .inl (.inr a)
    · rintro ((a | a) | a)
      · exact .inl (.inl a)
      · exact .inr a
      · exact .inl (.inr a)
  · intro v hv c hc hvc
    rcases (hstk v).1 hv with hv | rfl
    · exact h.disj v hv c hc hvc
    · exact hnew ((h.cover v).2 (.inr ⟨c, hc, hvc⟩))
  · -- srt
    show (s.stk ++ [j]).Pairwise _
    rw [List.pairwise_append]
    refine ⟨h.srt.imp_of_mem ?_, by simp, ?_⟩
    · intro a b ha hb hab
      rw [hold a (h.stk_pre ha), hold b (h.stk_pre hb)]; exact hab
    · intro a ha b hb
      simp at hb; subst hb
      rw [hold a (h.stk_pre ha), hjo]
      have := hle a; omega
  · intro q hq
    rcases (hwlk q).1 hq with hq | rfl
    · exact ⟨(hstk _).2 (.inl (h.wst q hq).1), (h.wst q hq).2⟩
    · exact ⟨(hstk _).2 (.inr rfl), Nat.zero_le _⟩
  · show (s.wlk ++ [(j, 0)]).Pairwise _
    rw [List.pairwise_append]
    refine ⟨h.wsrt.imp_of_mem ?_, by simp, ?_⟩
    · intro a b ha hb hab
      rw [hold _ (hwp a ha), hold _ (hwp b hb)]; exact hab
    · intro a ha b hb
      simp at hb; subst hb
      rw [hold _ (hwp a ha), hjo]
      have := hle a.1; omega
  · -- up
    intro x hx y hy hxy
    rcases (hstk x).1 hx with hx1 | rfl <;> rcases (hstk y).1 hy with hy1 | rfl
    · rw [hold x (h.stk_pre hx1), hold y (h.stk_pre hy1)] at hxy
      exact h.up x hx1 y hy1 hxy
    · exact hto x hx1
    · rw [hjo, hold y (h.stk_pre hy1)] at hxy
      have := hle y; omega
    · exact Gr.Reach.refl g _
  · -- dn
    intro y hy
    rcases (hstk y).1 hy with hy | rfl
    · obtain ⟨q, hq, h1, h2⟩ := h.dn y hy
      exact ⟨q, (hwlk q).2 (.inl hq), by rw [hold _ (hwp q hq), hold y (h.stk_pre hy)]; exact h1, h2⟩
    · exact ⟨(y, 0), (hwlk _).2 (.inr rfl), Nat.le_refl _, Gr.Reach.refl g _⟩
  · -- blk
    intro v hv hnw k hk
    rcases (hpre v).1 hv with hv | rfl
    · exact (hpre _).2 (.inl (h.blk v hv (fun q hq => hnw q ((hwlk q).2 (.inl hq))) k hk))
    · exact absurd rfl (hnw (v, 0) ((hwlk _).2 (.inr rfl)))
  · -- gry
    intro q hq k hk
    rcases (hwlk q).1 hq with hq | rfl
    · exact (hpre _).2 (.inl (h.gry q hq k hk))
    · exact absurd hk (Nat.not_lt_zero _)
  · -- lo
    intro q hq
    rcases (hwlk q).1 hq with hq | rfl
    · rw [hlow _ (hwp q hq), hold _ (hwp q hq)]
      obtain ⟨h1, u, hu, h2, h3⟩ := h.lo q hq
      exact ⟨h1, u, (hstk u).2 (.inl hu), by rw [hold u (h.stk_pre hu)]; exact h2, h3⟩
    · refine ⟨?_, j, (hstk j).2 (.inr rfl), ?_, Gr.Reach.refl g _⟩
      · show upd s.low j (s.pre.length + 1) j ≤ _
        rw [upd_self, hjo]; exact Nat.le_refl _
      · show _ = upd s.low j (s.pre.length + 1) j
        rw [upd_self, hjo]
  · -- own
    intro x hx k hsn hy q hq
    rcases (hstk x).1 hx with hx | rfl
    · have hsn' : s.Scanned g x k := ⟨hsn.1, fun q hq e => hsn.2 q ((hwlk q).2 (.inl hq)) e⟩
      have hqw : q ∈ s.wlk := by
        rcases (hwlk q).1 hq.1 with a | rfl
        · exact a
        · have := hq.2.1
          rw [hjo, hold x (h.stk_pre hx)] at this
          have := hle x; omega
      rcases (hstk _).1 hy with hy | hy
      · rw [hlow _ (hwp q hqw), hold _ (h.stk_pre hy)]
        refine h.own x hx k hsn' hy q ⟨hqw, ?_, ?_⟩
        · have := hq.2.1
          rw [hold _ (hwp q hqw), hold x (h.stk_pre hx)] at this; exact this
        · intro q' hq' hle'
          have := hq.2.2 q' ((hwlk q').2 (.inl hq')) (by rw [hold _ (hwp q' hq'), hold x (h.stk_pre hx)]; exact hle')
          rw [hold _ (hwp q' hq'), hold _ (hwp q hqw)] at this; exact this
      · exact absurd hy (fun e => hsc x hx k hsn' e)
    · have := hsn.2 (x, 0) ((hwlk _).2 (.inr rfl)) rfl
      exact absurd this (Nat.not_lt_zero _)

/-- a frame's next edge is looked at: its node is met already -/
theorem TInv.bump {g : Gr} {s : TS} (h : TInv g s) {l1 l2 : List (Nat × Nat)} {i k nl : Nat} (e : s.wlk = l1 ++ (i, k) :: l2) (hk : k < g.deg i) (hj : g.nx i k ∈ s.pre)
    (h1 : nl ≤ s.low i) (h2 : g.nx i k ∈ s.stk → nl ≤ s.ord (g.nx i k)) (h3 : ∃ u ∈ s.stk, s.ord u = nl ∧ g.Reach i u) :
    TInv g { s with wlk := l1 ++ (i, k + 1) :: l2, low := upd s.low i nl } := by
  have hi : (i, k) ∈ s.wlk := by rw [e]; simp
  have hmem : ∀ q, q ∈ l1 ++ (i, k + 1) :: l2 → q = (i, k + 1) ∨ (q ∈ s.wlk ∧ q.1 ≠ i) := by
    intro q hq
    have hcase : q = (i, k + 1) ∨ q ∈ l1 ∨ q ∈ l2 := by
      rcases List.mem_append.1 hq with hq | hq
      · exact .inr (.inl hq)
      · rcases List.mem_cons.1 hq with hq | hq
        · exact .inl hq
        · exact .inr (.inr hq)
    rcases hcase with hq | hq
    · exact .inl hq
    · have hqw : q ∈ s.wlk := by rw [e]; rcases hq with hq | hq <;> simp [hq]
      refine .inr ⟨hqw, fun ei => ?_⟩
      have hw := h.wsrt
      rw [e, List.pairwise_append] at hw
      rcases hq with hq | hq
      · have := hw.2.2 q hq (i, k) (by simp)
        rw [ei] at this; simp at this
      · have := (List.pairwise_cons.1 hw.2.1).1 q hq
        rw [ei] at this; simp at this
  have hback : ∀ q, q ∈ s.wlk → ∃ q' ∈ l1 ++ (i, k + 1) :: l2, q'.1 = q.1 ∧ (q.1 ≠ i → q' = q) := by
    intro q hq
    by_cases ei : q.1 = i
    · exact ⟨(i, k + 1), by simp, by rw [ei], fun hn => absurd ei hn⟩
    · refine ⟨q, ?_, rfl, fun _ => rfl⟩
      rw [e] at hq
      rcases List.mem_append.1 hq with hq | hq
      · simp [hq]
      · rcases List.mem_cons.1 hq with hq | hq
        · rw [hq] at ei; exact absurd rfl ei
        · simp [hq]
  have hlowle : ∀ v, upd s.low i nl v ≤ s.low v := fun v => by
    unfold upd; split
    · rename_i e; rw [e]; exact h1
    · exact Nat.le_refl _
  refine ⟨h.nd, h.lt, h.cover, h.disj, h.gdisj, h.gnd, h.srt, ?_, ?_, h.up, ?_, ?_, ?_, ?_, ?_, h.grp, h.ged⟩
  · intro q hq
    rcases hmem q hq with rfl | ⟨hq, _⟩
    · exact ⟨(h.wst _ hi).1, hk⟩
    · exact h.wst q hq
  · show (l1 ++ (i, k + 1) :: l2).Pairwise (fun a b => s.ord a.1 < s.ord b.1)
    have hw := h.wsrt
    rw [e, List.pairwise_append, List.pairwise_cons] at hw
    rw [List.pairwise_append, List.pairwise_cons]
    refine ⟨hw.1, hw.2.1, fun a ha b hb => ?_⟩
    rcases List.mem_cons.1 hb with rfl | hb
    · exact hw.2.2 a ha (i, k) (by simp)
    · exact hw.2.2 a ha b (by simp [hb])
  · intro y hy
    obtain ⟨q, hq, a, b⟩ := h.dn y hy
    obtain ⟨q', hq', e1, _⟩ := hback q hq
    refine ⟨q', hq', ?_, ?_⟩
    · rw [e1]; exact a
    · rw [e1]; exact b
  · intro v hv hnw k' hk'
    refine h.blk v hv (fun q hq ev => ?_) k' hk'
    obtain ⟨q', hq', e1, _⟩ := hback q hq
    exact hnw q' hq' (by rw [e1, ev])
  · intro q hq k' hk'
    rcases hmem q hq with rfl | ⟨hq, _⟩
    · by_cases ek : k' = k
      · subst ek; exact hj
      · exact h.gry _ hi k' (by simp at hk'; show k' < k; omega)
    · exact h.gry q hq k' hk'
  · intro q hq
    rcases hmem q hq with rfl | ⟨hq, hn⟩
    · obtain ⟨a, _⟩ := h.lo _ hi
      refine ⟨?_, ?_⟩
      · show upd s.low i nl i ≤ s.ord i
        rw [upd_self]; exact Nat.le_trans h1 a
      · show ∃ u ∈ s.stk, s.ord u = upd s.low i nl i ∧ g.Reach i u
        rw [upd_self]; exact h3
    · show upd s.low i nl q.1 ≤ s.ord q.1 ∧ ∃ u ∈ s.stk, s.ord u = upd s.low i nl q.1 ∧ g.Reach q.1 u
      rw [upd_other hn]; exact h.lo q hq
  · intro x hx k' hsn hy q hq
    have hqo : ∃ q0 ∈ s.wlk, q0.1 = q.1 ∧ s.Owner q0 x := by
      rcases hmem q hq.1 with rfl | ⟨hqw, _⟩
      · refine ⟨(i, k), hi, rfl, hi, hq.2.1, fun q' hq' hle => ?_⟩
        obtain ⟨q2, hq2, e1, _⟩ := hback q' hq'
        have := hq.2.2 q2 hq2 (by rw [e1]; exact hle)
        rw [e1] at this; exact this
      · refine ⟨q, hqw, rfl, hqw, hq.2.1, fun q' hq' hle => ?_⟩
        obtain ⟨q2, hq2, e1, _⟩ := hback q' hq'
        have := hq.2.2 q2 hq2 (by rw [e1]; exact hle)
        rw [e1] at this; exact this
    obtain ⟨q0, hq0, e0, hown⟩ := hqo
    by_cases hold : s.Scanned g x k'
    · have := h.own x hx k' hold hy q0 hown
      rw [e0] at this
      exact Nat.le_trans (hlowle _) this
    · -- the edge that is looked at now
      have hxi : x = i ∧ k' = k := by
        have : ∃ q ∈ s.wlk, q.1 = x ∧ ¬ k' < q.2 := Classical.byContradiction fun hno => hold ⟨hsn.1, fun q hq eq => Classical.byContradiction fun hn => hno ⟨q, hq, eq, hn⟩⟩
        obtain ⟨q1, hq1, ex, hn⟩ := this
        by_cases ei : q1.1 = i
        · have e2 := h.wlk_inj hq1 hi (by rw [ei])
          subst e2
          have := hsn.2 (i, k + 1) (by show (i, k + 1) ∈ l1 ++ (i, k + 1) :: l2; simp) ex
          simp at this hn
          exact ⟨ex.symm, by omega⟩
        · obtain ⟨q2, hq2, e1, e2⟩ := hback q1 hq1
          have := e2 ei
          subst this
          exact absurd (hsn.2 q2 hq2 ex) hn
      obtain ⟨rfl, rfl⟩ := hxi
      have hqi : q.1 = x := by
        have a := hown.2.2 (x, k') hi (Nat.le_refl _)
        have b := hown.2.1
        rw [← e0]
        exact ordOf_inj (h.stk_pre (h.wst q0 hq0).1) (Nat.le_antisymm b a)
      show upd s.low x nl q.1 ≤ s.ord (g.nx x k')
      rw [hqi, upd_self]
      exact h2 hy

/-- what the parent's low link becomes when node i is finished -/
def TS.parLow (s : TS) (ws : List (Nat × Nat)) (i : Nat) : Nat → Nat :=
  match ws.getLast? with
  | some q => upd s.low q.1 (min (s.low q.1) (s.low i))
  | none => s.low

theorem parLow_le (s : TS) (ws : List (Nat × Nat)) (i v : Nat) : s.parLow ws i v ≤ s.low v := by
  unfold TS.parLow
  cases ws.getLast? with
  | none => exact Nat.le_refl _
  | some q =>
    show upd s.low q.1 _ v ≤ _
    unfold upd
    split
    · rename_i e; rw [e]; exact Nat.min_le_left _ _
    · exact Nat.le_refl _
theorem parLow_last {s : TS} {ws : List (Nat × Nat)} {p kp i : Nat} : s.parLow (ws ++ [(p, kp)]) i p = min (s.low p) (s.low i) := by
  simp [TS.parLow, upd_self]
theorem parLow_other {s : TS} {ws : List (Nat × Nat)} {p kp i v : Nat} (h : v ≠ p) : s.parLow (ws ++ [(p, kp)]) i v = s.low v := by
  simp [TS.parLow, upd_other h]

section pop
variable {g : Gr} {s : TS} {ws : List (Nat × Nat)} {i k : Nat}

theorem TInv.ws_lt (h : TInv g s) (e : s.wlk = ws ++ [(i, k)]) : ∀ q ∈ ws, q ∈ s.wlk ∧ s.ord q.1 < s.ord i := by
  have hw := h.wsrt
  rw [e, List.pairwise_append] at hw
  intro q hq
  exact ⟨by rw [e]; simp [hq], hw.2.2 q hq (i, k) (by simp)⟩

/-- a node is finished whose low link is an earlier node of the stack -/
theorem TInv.pop_keep (h : TInv g s) (e : s.wlk = ws ++ [(i, k)]) (hk : ¬ k < g.deg i) (hne : s.low i ≠ s.ord i) :
    TInv g { s with wlk := ws, fin := s.fin ++ [i], low := s.parLow ws i } ∧ ws ≠ [] := by
  have hi : (i, k) ∈ s.wlk := by rw [e]; simp
  have his : i ∈ s.stk := (h.wst _ hi).1
  have hkd : k = g.deg i := Nat.le_antisymm (h.wst _ hi).2 (Nat.le_of_not_lt hk)
  have hws := h.ws_lt e
  obtain ⟨hlo, u, hu, hul, hiu⟩ := h.lo _ hi
  have hlt : s.low i < s.ord i := Nat.lt_of_le_of_ne hlo hne
  have hsplit : ∀ q ∈ s.wlk, q ∈ ws ∨ q = (i, k) := fun q hq => by rw [e] at hq; simpa using hq
  -- every node of the stack leads to an earlier or equal frame's node other than i
  have hdn : ∀ y ∈ s.stk, ∃ q ∈ ws, s.ord q.1 ≤ s.ord y ∧ g.Reach y q.1 := by
    intro y hy
    obtain ⟨q, hq, h1, h2⟩ := h.dn y hy
    rcases hsplit q hq with hq | rfl
    · exact ⟨q, hq, h1, h2⟩
    · obtain ⟨q', hq', h1', h2'⟩ := h.dn u hu
      simp only at hul hiu hlo
      rcases hsplit q' hq' with hq' | rfl
      · refine ⟨q', hq', ?_, h2.trans (hiu.trans h2')⟩
        simp only at h1; omega
      · simp only at h1'; omega
  obtain ⟨q0, hq0, _, _⟩ := hdn i his
  have hnil : ws ≠ [] := fun en => by rw [en] at hq0; cases hq0
  obtain ⟨ws', ⟨p, kp⟩, ews⟩ : ∃ ws' q, ws = ws' ++ [q] := ⟨ws.dropLast, ws.getLast hnil, (List.dropLast_concat_getLast hnil).symm⟩
  have hp : (p, kp) ∈ ws := by rw [ews]; simp
  have hpmax : ∀ q ∈ ws, s.ord q.1 ≤ s.ord p := by
    have hw := h.wsrt
    rw [e, List.pairwise_append] at hw
    have hw1 := hw.1
    rw [ews, List.pairwise_append] at hw1
    intro q hq
    rw [ews] at hq
    rcases List.mem_append.1 hq with hq | hq
    · exact Nat.le_of_lt (hw1.2.2 q hq (p, kp) (by simp))
    · simp at hq; subst hq; exact Nat.le_refl _
  have hlp : s.parLow ws i p = min (s.low p) (s.low i) := by rw [ews]; exact parLow_last
  have hlother : ∀ v, v ≠ p → s.parLow ws i v = s.low v := fun v hv => by rw [ews]; exact parLow_other hv
  refine ⟨⟨h.nd, h.lt, h.cover, h.disj, h.gdisj, h.gnd, h.srt, fun q hq => h.wst q (hws q hq).1, ?_, h.up, hdn, ?_, fun q hq => h.gry q (hws q hq).1, ?_, ?_, h.grp, h.ged⟩, hnil⟩
  · have hw := h.wsrt
    rw [e, List.pairwise_append] at hw
    exact hw.1
  · intro v hv hnw k' hk'
    by_cases ev : v = i
    · subst ev; exact h.gry _ hi k' (by show k' < k; omega)
    · refine h.blk v hv (fun q hq eq => ?_) k' hk'
      rcases hsplit q hq with hq | rfl
      · exact hnw q hq eq
      · exact ev eq.symm
  · intro q hq
    obtain ⟨h1, u', hu', h2, h3⟩ := h.lo q (hws q hq).1
    refine ⟨Nat.le_trans (parLow_le _ _ _ _) h1, ?_⟩
    show ∃ u ∈ s.stk, s.ord u = s.parLow ws i q.1 ∧ g.Reach q.1 u
    by_cases eq : q.1 = p
    · rw [eq, hlp]
      rw [eq] at h2 h3
      rcases Nat.le_total (s.low p) (s.low i) with hm | hm
      · exact ⟨u', hu', by rw [Nat.min_eq_left hm]; exact h2, h3⟩
      · refine ⟨u, hu, by rw [Nat.min_eq_right hm]; exact hul, ?_⟩
        exact (h.up p (h.wst _ (hws _ hp).1).1 i his (Nat.le_of_lt (hws _ hp).2)).trans hiu
    · rw [hlother _ eq]; exact ⟨u', hu', h2, h3⟩
  · intro x hx k' hsn hy q hq
    have hsc : s.Scanned g x k' := by
      refine ⟨hsn.1, fun q' hq' eq => ?_⟩
      rcases hsplit q' hq' with hq' | rfl
      · exact hsn.2 q' hq' eq
      · show k' < k
        rw [hkd, show i = x from eq]; exact hsn.1
    have hqo : q ∈ ws := hq.1
    by_cases hix : s.ord i ≤ s.ord x
    · have hown := h.own x hx k' hsc hy (i, k) ⟨hi, hix, fun q' hq' _ => h.top_max e q' hq'⟩
      have hqp : q.1 = p := by
        have a : s.ord p ≤ s.ord q.1 := hq.2.2 (p, kp) hp (Nat.le_trans (Nat.le_of_lt (hws _ hp).2) hix)
        exact ordOf_inj (h.stk_pre (h.wst q (hws q hqo).1).1) (Nat.le_antisymm (hpmax q hqo) a)
      show s.parLow ws i q.1 ≤ _
      rw [hqp, hlp]
      exact Nat.le_trans (Nat.min_le_right _ _) hown
    · have hown := h.own x hx k' hsc hy q ⟨(hws q hqo).1, hq.2.1, fun q' hq' hle => ?_⟩
      · exact Nat.le_trans (parLow_le _ _ _ _) hown
      · rcases hsplit q' hq' with hq' | rfl
        · exact hq.2.2 q' hq' hle
        · exact absurd hle hix

/-- a node is finished that is the first met of its group: the group leaves the stack -/
theorem TInv.pop_emit (h : TInv g s) (e : s.wlk = ws ++ [(i, k)]) (hk : ¬ k < g.deg i) (heq : s.low i = s.ord i) {st1 st2 : List Nat} (es : s.stk = st1 ++ i :: st2) :
    TInv g { s with wlk := ws, fin := s.fin ++ [i], low := s.parLow ws i, stk := st1, grs := s.grs ++ [(i :: st2).reverse] } := by
  have hi : (i, k) ∈ s.wlk := by rw [e]; simp
  have his : i ∈ s.stk := (h.wst _ hi).1
  have hkd : k = g.deg i := Nat.le_antisymm (h.wst _ hi).2 (Nat.le_of_not_lt hk)
  have hws := h.ws_lt e
  have hsplit : ∀ q ∈ s.wlk, q ∈ ws ∨ q = (i, k) := fun q hq => by rw [e] at hq; simpa using hq
  have hsrt := h.srt
  rw [es, List.pairwise_append, List.pairwise_cons] at hsrt
  have h1 : ∀ x, x ∈ st1 ↔ (x ∈ s.stk ∧ s.ord x < s.ord i) := by
    intro x
    constructor
    · intro hx; exact ⟨by rw [es]; simp [hx], hsrt.2.2 x hx i (by simp)⟩
    · rintro ⟨hx, hlt⟩
      rw [es] at hx
      rcases List.mem_append.1 hx with hx | hx
      · exact hx
      · rcases List.mem_cons.1 hx with rfl | hx
        · omega
        · have := hsrt.2.1.1 x hx; omega
  have h2 : ∀ x, x ∈ i :: st2 ↔ (x ∈ s.stk ∧ s.ord i ≤ s.ord x) := by
    intro x
    constructor
    · intro hx
      refine ⟨by rw [es]; simp at hx ⊢; exact .inr hx, ?_⟩
      rcases List.mem_cons.1 hx with rfl | hx
      · exact Nat.le_refl _
      · exact Nat.le_of_lt (hsrt.2.1.1 x hx)
    · rintro ⟨hx, hle⟩
      rw [es] at hx
      rcases List.mem_append.1 hx with hx | hx
      · have := hsrt.2.2 x hx i (by simp); omega
      · exact hx
  have hr : ∀ x, x ∈ (i :: st2).reverse ↔ x ∈ i :: st2 := fun x => List.mem_reverse
  have hparlow : ∀ v, s.parLow ws i v = s.low v := by
    intro v
    rcases hws' : ws.getLast? with _ | q
    · simp [TS.parLow, hws']
    · have hq : q ∈ ws := List.mem_of_getLast? hws'
      simp only [TS.parLow, hws']
      unfold upd
      split
      · rename_i ev
        have a := (h.lo q (hws q hq).1).1
        have b := (hws q hq).2
        rw [ev, heq, Nat.min_eq_left (by omega)]
      · rfl
  have hstkold : ∀ x ∈ s.stk, x ∈ st1 ∨ x ∈ i :: st2 := fun x hx => by
    rcases Nat.lt_or_ge (s.ord x) (s.ord i) with a | a
    · exact .inl ((h1 x).2 ⟨hx, a⟩)
    · exact .inr ((h2 x).2 ⟨hx, a⟩)
  refine ⟨h.nd, h.lt, ?_, ?_, ?_, ?_, hsrt.1, ?_, ?_, ?_, ?_, ?_, fun q hq => h.gry q (hws q hq).1, ?_, ?_, ?_, ?_⟩
  · -- cover
    intro v
    show v ∈ s.pre ↔ v ∈ st1 ∨ ∃ c ∈ s.grs ++ [(i :: st2).reverse], v ∈ c
    rw [h.cover v]
    constructor
    · rintro (a | ⟨c, hc, hv⟩)
      · rcases hstkold v a with a | a
        · exact .inl a
        · exact .inr ⟨_, List.mem_append.2 (.inr (by simp)), (hr v).2 a⟩
      · exact .inr ⟨c, by simp [hc], hv⟩
    · rintro (a | ⟨c, hc, hv⟩)
      · exact .inl ((h1 v).1 a).1
      · rcases List.mem_append.1 hc with hc | hc
        · exact .inr ⟨c, hc, hv⟩
        · have ec : c = (i :: st2).reverse := by simpa using hc
          rw [ec] at hv
          exact .inl ((h2 v).1 ((hr v).1 hv)).1
  · -- disj
    intro v hv c hc hvc
    have hv' := (h1 v).1 hv
    rcases List.mem_append.1 hc with hc | hc
    · exact h.disj v hv'.1 c hc hvc
    · have ec : c = (i :: st2).reverse := by simpa using hc
      rw [ec] at hvc
      have := ((h2 v).1 ((hr v).1 hvc)).2
      omega
  · -- gdisj
    show (s.grs ++ [(i :: st2).reverse]).Pairwise _
    rw [List.pairwise_append]
    refine ⟨h.gdisj, by simp, fun c hc c' hc' v hv hv' => ?_⟩
    have ec : c' = (i :: st2).reverse := by simpa using hc'
    rw [ec] at hv'
    exact h.disj v ((h2 v).1 ((hr v).1 hv')).1 c hc hv
  · -- gnd
    intro c hc
    rcases List.mem_append.1 hc with hc | hc
    · exact h.gnd c hc
    · have ec : c = (i :: st2).reverse := by simpa using hc
      rw [ec]
      refine ⟨?_, by simp⟩
      have hn := h.stk_nodup
      rw [es, List.nodup_append] at hn
      exact List.pairwise_reverse.2 (hn.2.1.imp (fun hab e => hab e.symm))
  · -- wst
    intro q hq
    have := hws q hq
    exact ⟨(h1 _).2 ⟨(h.wst q this.1).1, this.2⟩, (h.wst q this.1).2⟩
  · have hw := h.wsrt
    rw [e, List.pairwise_append] at hw
    exact hw.1
  · intro x hx y hy hxy
    exact h.up x ((h1 x).1 hx).1 y ((h1 y).1 hy).1 hxy
  · intro y hy
    obtain ⟨q, hq, a, b⟩ := h.dn y ((h1 y).1 hy).1
    rcases hsplit q hq with hq | rfl
    · exact ⟨q, hq, a, b⟩
    · have := ((h1 y).1 hy).2
      simp only at a
      omega
  · -- blk
    intro v hv hnw k' hk'
    by_cases ev : v = i
    · subst ev; exact h.gry _ hi k' (by show k' < k; omega)
    · refine h.blk v hv (fun q hq eq => ?_) k' hk'
      rcases hsplit q hq with hq | rfl
      · exact hnw q hq eq
      · exact ev eq.symm
  · -- lo
    intro q hq
    show s.parLow ws i q.1 ≤ s.ord q.1 ∧ ∃ u ∈ st1, s.ord u = s.parLow ws i q.1 ∧ g.Reach q.1 u
    rw [hparlow]
    obtain ⟨a, u, hu, b, c⟩ := h.lo q (hws q hq).1
    have := (hws q hq).2
    exact ⟨a, u, (h1 u).2 ⟨hu, by omega⟩, b, c⟩
  · -- own
    intro x hx k' hsn hy q hq
    show s.parLow ws i q.1 ≤ s.ord (g.nx x k')
    rw [hparlow]
    have hx' := (h1 x).1 hx
    have hqo : q ∈ ws := hq.1
    refine h.own x hx'.1 k' ⟨hsn.1, fun q' hq' eq => ?_⟩ ((h1 _).1 hy).1 q ⟨(hws q hqo).1, hq.2.1, fun q' hq' hle => ?_⟩
    · rcases hsplit q' hq' with hq' | rfl
      · exact hsn.2 q' hq' eq
      · simp only at eq; subst eq; omega
    · rcases hsplit q' hq' with hq' | rfl
      · exact hq.2.2 q' hq' hle
      · simp only at hle; omega
  · -- grp
    intro c hc x hx y hy
    rcases List.mem_append.1 hc with hc | hc
    · exact h.grp c hc x hx y hy
    · have ec : c = (i :: st2).reverse := by simpa using hc
      rw [ec] at hx hy
      have hx' := (h2 x).1 ((hr x).1 hx)
      have hy' := (h2 y).1 ((hr y).1 hy)
      exact (h.to_top e hx'.1).trans (h.up i his y hy'.1 hy'.2)
  · -- ged
    intro j c hc v hv k' hk'
    show ∃ (j' : Nat) (c' : List Nat), j' ≤ j ∧ (s.grs ++ [(i :: st2).reverse])[j']? = some c' ∧ g.nx v k' ∈ c'
    have hc' : (s.grs ++ [(i :: st2).reverse])[j]? = some c := hc
    rcases Nat.lt_or_ge j s.grs.length with hj | hj
    · rw [List.getElem?_append_left hj] at hc'
      obtain ⟨j', c', a, b, d⟩ := h.ged j c hc' v hv k' hk'
      exact ⟨j', c', a, by rw [List.getElem?_append_left (by omega)]; exact b, d⟩
    · rw [List.getElem?_append_right hj] at hc'
      have hj0 : j = s.grs.length := by
        rcases Nat.eq_zero_or_pos (j - s.grs.length) with hz | hz
        · omega
        · rw [List.getElem?_eq_none (by simp; omega)] at hc'; cases hc'
      subst hj0
      simp only [Nat.sub_self, List.getElem?_cons_zero, Option.some.injEq] at hc'
      subst hc'
      have hv' := (h2 v).1 ((hr v).1 hv)
      have hgrey : ∀ q ∈ s.wlk, q.1 = v → q = (i, k) := fun q hq eq => by
        have a := h.top_max e q hq
        rw [eq] at a
        refine h.wlk_inj hq hi ?_
        rw [eq]
        exact ordOf_inj (h.stk_pre hv'.1) (Nat.le_antisymm a hv'.2)
      have hsc : s.Scanned g v k' := by
        refine ⟨hk', fun q hq eq => ?_⟩
        have e2 := hgrey q hq eq
        subst e2
        simp only at eq ⊢
        subst eq
        omega
      have hpre : g.nx v k' ∈ s.pre := by
        by_cases hw : ∃ q ∈ s.wlk, q.1 = v
        · obtain ⟨q, hq, eq⟩ := hw
          have := h.gry q hq k' (hsc.2 q hq eq)
          rw [eq] at this; exact this
        · exact h.blk v (h.stk_pre hv'.1) (fun q hq eq => hw ⟨q, hq, eq⟩) k' hk'
      rcases (h.cover _).1 hpre with hst | ⟨c', hc', hin⟩
      · have := h.own v hv'.1 k' hsc hst (i, k) ⟨hi, hv'.2, fun q' hq' _ => h.top_max e q' hq'⟩
        simp only at this
        rw [heq] at this
        refine ⟨s.grs.length, _, Nat.le_refl _, by simp, (hr _).2 ((h2 _).2 ⟨hst, this⟩)⟩
      · obtain ⟨j', hj', ej⟩ := List.mem_iff_getElem.1 hc'
        refine ⟨j', c', by omega, ?_, hin⟩
        rw [List.getElem?_append_left hj', List.getElem?_eq_getElem hj', ej]

end pop

end Go.Proofs.Qxb6603026a
