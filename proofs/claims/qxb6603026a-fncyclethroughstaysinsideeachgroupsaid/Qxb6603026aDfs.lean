/-
  The bare depth-first walk under Tarjan's: who is met and who is finished, in order; and what the groups' order hangs on. No Go in sight.
-/
import Derived.Test.Qxb6603026aTarjan
namespace Go.Proofs.Qxb6603026a

/-- the bare walk's state -/
structure MS where
  pre : List Nat
  fin : List Nat
  wlk : List (Nat × Nat)

/-- one move; none: there are no frames -/
def mstep (g : Gr) (m : MS) : Option MS :=
  match m.wlk.getLast? with
  | none => none
  | some q => some (
      if q.2 < g.deg q.1 then
        if g.nx q.1 q.2 ∈ m.pre then { m with wlk := m.wlk.dropLast ++ [(q.1, q.2 + 1)] }
        else { m with pre := m.pre ++ [g.nx q.1 q.2], wlk := m.wlk.dropLast ++ [(q.1, q.2 + 1)] ++ [(g.nx q.1 q.2, 0)] }
      else { m with fin := m.fin ++ [q.1], wlk := m.wlk.dropLast })

def MRun (g : Gr) : Nat → MS → MS → Prop
  | 0, a, b => a = b
  | t + 1, a, b => ∃ c, mstep g a = some c ∧ MRun g t c b

theorem MRun.trans {g : Gr} {t u : Nat} {a b c : MS} (h : MRun g t a b) (h' : MRun g u b c) : MRun g (t + u) a c := by
  induction t generalizing a with
  | zero => simp only [MRun] at h; subst h; simpa using h'
  | succ t ih =>
    obtain ⟨x, e, r⟩ := h
    have : t + 1 + u = (t + u) + 1 := by omega
    rw [this]
    exact ⟨x, e, ih r⟩
theorem MRun.snoc {g : Gr} {t : Nat} {a b c : MS} (h : MRun g t a b) (h' : mstep g b = some c) : MRun g (t + 1) a c := h.trans (u := 1) ⟨c, h', rfl⟩
theorem mstep_nil {g : Gr} {p f : List Nat} : mstep g ⟨p, f, []⟩ = none := rfl
/-- the end without frames is one -/
theorem MRun.unique {g : Gr} {t u : Nat} {a b c : MS} (h : MRun g t a b) (h' : MRun g u a c) (hb : b.wlk = []) (hc : c.wlk = []) : b = c := by
  induction t generalizing a u with
  | zero =>
    simp only [MRun] at h
    subst h
    cases u with
    | zero => simp only [MRun] at h'; exact h'
    | succ u =>
      obtain ⟨x, e, _⟩ := h'
      simp [mstep, hb] at e
  | succ t ih =>
    obtain ⟨x, e, r⟩ := h
    cases u with
    | zero =>
      simp only [MRun] at h'
      subst h'
      simp [mstep, hc] at e
    | succ u =>
      obtain ⟨y, e', r'⟩ := h'
      rw [e] at e'
      cases e'
      exact ih r r'

/-- the walk from the steps below r, in index order, has met p and finished f -/
def DfsTo (g : Gr) : Nat → List Nat → List Nat → Prop
  | 0, p, f => p = [] ∧ f = []
  | r + 1, p, f => ∃ p0 f0, DfsTo g r p0 f0 ∧ ((r ∈ p0 ∧ p = p0 ∧ f = f0) ∨ (r ∉ p0 ∧ ∃ t, MRun g t ⟨p0 ++ [r], f0, [(r, 0)]⟩ ⟨p, f, []⟩))

theorem DfsTo.unique {g : Gr} {r : Nat} {p f p' f' : List Nat} (h : DfsTo g r p f) (h' : DfsTo g r p' f') : p = p' ∧ f = f' := by
  induction r generalizing p f p' f' with
  | zero => exact ⟨h.1.trans h'.1.symm, h.2.trans h'.2.symm⟩
  | succ r ih =>
    obtain ⟨p0, f0, h0, h1⟩ := h
    obtain ⟨p0', f0', h0', h1'⟩ := h'
    obtain ⟨rfl, rfl⟩ := ih h0 h0'
    rcases h1 with ⟨a, rfl, rfl⟩ | ⟨a, t, b⟩ <;> rcases h1' with ⟨a', rfl, rfl⟩ | ⟨a', t', b'⟩
    · exact ⟨rfl, rfl⟩
    · exact absurd a a'
    · exact absurd a' a
    · have := b.unique b' rfl rfl
      simp at this
      exact this

/-- inside the walk from step r -/
def DfsIn (g : Gr) (r : Nat) (s : TS) : Prop := ∃ p0 f0, DfsTo g r p0 f0 ∧ r ∉ p0 ∧ ∃ t, MRun g t ⟨p0 ++ [r], f0, [(r, 0)]⟩ ⟨s.pre, s.fin, s.wlk⟩

theorem DfsIn.start {g : Gr} {r : Nat} {s : TS} (h : DfsTo g r s.pre s.fin) (hn : r ∉ s.pre) (hw : s.wlk = []) : DfsIn g r (s.visit r) :=
  ⟨s.pre, s.fin, h, hn, 0, by simp [MRun, TS.visit, hw]⟩
theorem DfsIn.stop {g : Gr} {r : Nat} {s : TS} (h : DfsIn g r s) (hw : s.wlk = []) : DfsTo g (r + 1) s.pre s.fin := by
  obtain ⟨p0, f0, h0, hn, t, hr⟩ := h
  rw [hw] at hr
  exact ⟨p0, f0, h0, .inr ⟨hn, t, hr⟩⟩
theorem DfsTo.skip {g : Gr} {r : Nat} {p f : List Nat} (h : DfsTo g r p f) (hr : r ∈ p) : DfsTo g (r + 1) p f := ⟨p, f, h, .inl ⟨hr, rfl, rfl⟩⟩
theorem DfsIn.step {g : Gr} {r : Nat} {s s' : TS} (h : DfsIn g r s) (he : mstep g ⟨s.pre, s.fin, s.wlk⟩ = some ⟨s'.pre, s'.fin, s'.wlk⟩) : DfsIn g r s' := by
  obtain ⟨p0, f0, h0, hn, t, hr⟩ := h
  exact ⟨p0, f0, h0, hn, t + 1, hr.snoc he⟩

theorem mstep_old {g : Gr} {p f : List Nat} {ws : List (Nat × Nat)} {i k : Nat} (hk : k < g.deg i) (hj : g.nx i k ∈ p) : mstep g ⟨p, f, ws ++ [(i, k)]⟩ = some ⟨p, f, ws ++ [(i, k + 1)]⟩ := by
  simp [mstep, hk, hj]
theorem mstep_new {g : Gr} {p f : List Nat} {ws : List (Nat × Nat)} {i k : Nat} (hk : k < g.deg i) (hj : g.nx i k ∉ p) : mstep g ⟨p, f, ws ++ [(i, k)]⟩ = some ⟨p ++ [g.nx i k], f, ws ++ [(i, k + 1)] ++ [(g.nx i k, 0)]⟩ := by
  simp [mstep, hk, hj]
theorem mstep_pop {g : Gr} {p f : List Nat} {ws : List (Nat × Nat)} {i k : Nat} (hk : ¬ k < g.deg i) : mstep g ⟨p, f, ws ++ [(i, k)]⟩ = some ⟨p, f ++ [i], ws⟩ := by
  simp [mstep, hk]

/-- what the groups' order hangs on -/
structure TInv2 (s : TS) : Prop where
  fnd : s.fin.Nodup
  fmem : ∀ v, v ∈ s.fin ↔ (v ∈ s.pre ∧ ∀ q ∈ s.wlk, q.1 ≠ v)
  gsrt : ∀ c ∈ s.grs, c.Pairwise (fun a b => s.ord b < s.ord a)
  hds : s.grs.filterMap List.getLast? = s.fin.filter (fun v => decide (v ∈ s.grs.filterMap List.getLast?))
  hmx : ∀ c ∈ s.grs, ∀ h, c.getLast? = some h → ∀ v ∈ c, v ∈ s.fin ∧ ordOf s.fin v ≤ ordOf s.fin h

theorem inv2_start (low : Nat → Nat) : TInv2 ⟨[], [], low, [], [], []⟩ where
  fnd := List.nodup_nil
  fmem := by simp
  gsrt := by simp
  hds := by simp
  hmx := by simp

theorem TInv2.visit {g : Gr} {s : TS} (h : TInv g s) (h2 : TInv2 s) {j : Nat} (hnew : j ∉ s.pre) : TInv2 (s.visit j) := by
  refine ⟨h2.fnd, fun v => ?_, fun c hc => ?_, h2.hds, h2.hmx⟩
  · show v ∈ s.fin ↔ (v ∈ s.pre ++ [j] ∧ ∀ q ∈ s.wlk ++ [(j, 0)], q.1 ≠ v)
    rw [h2.fmem]
    constructor
    · rintro ⟨a, b⟩
      refine ⟨by simp [a], fun q hq => ?_⟩
      rcases List.mem_append.1 hq with hq | hq
      · exact b q hq
      · simp at hq; subst hq; exact fun e => hnew (by rw [show j = v from e]; exact a)
    · rintro ⟨a, b⟩
      refine ⟨?_, fun q hq => b q (by simp [hq])⟩
      rcases List.mem_append.1 a with a | a
      · exact a
      · simp at a; subst a; exact absurd rfl (b (v, 0) (by simp))
  · refine (h2.gsrt c hc).imp_of_mem (fun {a b} ha hb hab => ?_)
    have ma : a ∈ s.pre := (h.cover a).2 (.inr ⟨c, hc, ha⟩)
    have mb : b ∈ s.pre := (h.cover b).2 (.inr ⟨c, hc, hb⟩)
    show ordOf (s.pre ++ [j]) b < ordOf (s.pre ++ [j]) a
    rw [ordOf_append_mem ma, ordOf_append_mem mb]; exact hab

theorem TInv2.bump {s : TS} (h2 : TInv2 s) {l1 l2 : List (Nat × Nat)} {i k : Nat} (low : Nat → Nat) (e : s.wlk = l1 ++ (i, k) :: l2) : TInv2 { s with wlk := l1 ++ (i, k + 1) :: l2, low := low } := by
  refine ⟨h2.fnd, fun v => ?_, h2.gsrt, h2.hds, h2.hmx⟩
  show v ∈ s.fin ↔ (v ∈ s.pre ∧ ∀ q ∈ l1 ++ (i, k + 1) :: l2, q.1 ≠ v)
  rw [h2.fmem, e]
  constructor
  · rintro ⟨a, b⟩
    refine ⟨a, fun q hq => ?_⟩
    rcases List.mem_append.1 hq with hq | hq
    · exact b q (by simp [hq])
    · rcases List.mem_cons.1 hq with rfl | hq
      · exact b (i, k) (by simp)
      · exact b q (by simp [hq])
  · rintro ⟨a, b⟩
    refine ⟨a, fun q hq => ?_⟩
    rcases List.mem_append.1 hq with hq | hq
    · exact b q (by simp [hq])
    · rcases List.mem_cons.1 hq with rfl | hq
      · exact b (i, k + 1) (by simp)
      · exact b q (by simp [hq])

section pop
variable {g : Gr} {s : TS} {ws : List (Nat × Nat)} {i k : Nat}

theorem TInv2.not_fin (h2 : TInv2 s) (e : s.wlk = ws ++ [(i, k)]) : i ∉ s.fin := fun hi =>
  ((h2.fmem i).1 hi).2 (i, k) (by rw [e]; simp) rfl

theorem TInv2.pop_mem (h : TInv g s) (h2 : TInv2 s) (e : s.wlk = ws ++ [(i, k)]) (v : Nat) : v ∈ s.fin ++ [i] ↔ (v ∈ s.pre ∧ ∀ q ∈ ws, q.1 ≠ v) := by
  have hi : (i, k) ∈ s.wlk := by rw [e]; simp
  constructor
  · intro hv
    rcases List.mem_append.1 hv with hv | hv
    · have := (h2.fmem v).1 hv
      exact ⟨this.1, fun q hq => this.2 q (by rw [e]; simp [hq])⟩
    · simp at hv; subst hv
      refine ⟨h.stk_pre (h.wst _ hi).1, fun q hq eq => ?_⟩
      have := (h.ws_lt e q hq).2
      rw [eq] at this; omega
  · rintro ⟨a, b⟩
    by_cases ev : v = i
    · simp [ev]
    · refine List.mem_append.2 (.inl ((h2.fmem v).2 ⟨a, fun q hq => ?_⟩))
      rw [e] at hq
      rcases List.mem_append.1 hq with hq | hq
      · exact b q hq
      · simp at hq; subst hq; exact fun e => ev e.symm

theorem TInv2.fin_nodup (h2 : TInv2 s) (e : s.wlk = ws ++ [(i, k)]) : (s.fin ++ [i]).Nodup := by
  rw [List.nodup_append]
  refine ⟨h2.fnd, by simp, fun a ha b hb => ?_⟩
  simp at hb; subst hb
  exact fun eq => h2.not_fin e (eq ▸ ha)

theorem TInv2.hmx_snoc (h2 : TInv2 s) (i : Nat) : ∀ c ∈ s.grs, ∀ h, c.getLast? = some h → ∀ v ∈ c, v ∈ s.fin ++ [i] ∧ ordOf (s.fin ++ [i]) v ≤ ordOf (s.fin ++ [i]) h := by
  intro c hc h hl v hv
  have a := h2.hmx c hc h hl v hv
  have b := h2.hmx c hc h hl h (List.mem_of_getLast? hl)
  exact ⟨by simp [a.1], by rw [ordOf_append_mem a.1, ordOf_append_mem b.1]; exact a.2⟩

theorem TInv2.pop_keep (h : TInv g s) (h2 : TInv2 s) (e : s.wlk = ws ++ [(i, k)]) (low : Nat → Nat) : TInv2 { s with wlk := ws, fin := s.fin ++ [i], low := low } := by
  refine ⟨h2.fin_nodup e, fun v => TInv2.pop_mem h h2 e v, h2.gsrt, ?_, h2.hmx_snoc i⟩
  show s.grs.filterMap List.getLast? = (s.fin ++ [i]).filter (fun v => decide (v ∈ s.grs.filterMap List.getLast?))
  have hi : i ∉ s.grs.filterMap List.getLast? := by
    intro hm
    obtain ⟨c, hc, hl⟩ := List.mem_filterMap.1 hm
    exact h.disj i (h.wst (i, k) (by rw [e]; simp)).1 c hc (List.mem_of_getLast? hl)
  rw [List.filter_append, ← h2.hds, List.filter_cons_of_neg (by simpa using hi), List.filter_nil, List.append_nil]

theorem TInv2.pop_emit (h : TInv g s) (h2 : TInv2 s) (e : s.wlk = ws ++ [(i, k)]) (low : Nat → Nat) {st1 st2 : List Nat} (es : s.stk = st1 ++ i :: st2) :
    TInv2 { s with wlk := ws, fin := s.fin ++ [i], low := low, stk := st1, grs := s.grs ++ [(i :: st2).reverse] } := by
  refine ⟨h2.fin_nodup e, fun v => TInv2.pop_mem h h2 e v, fun c hc => ?_, ?_, fun c hc hd hl v hv => ?_⟩
  · rcases List.mem_append.1 hc with hc | hc
    · exact h2.gsrt c hc
    · have ec : c = (i :: st2).reverse := by simpa using hc
      rw [ec, List.pairwise_reverse]
      have hs := h.srt
      rw [es, List.pairwise_append] at hs
      exact hs.2.1
  · show (s.grs ++ [(i :: st2).reverse]).filterMap List.getLast? = (s.fin ++ [i]).filter (fun v => decide (v ∈ (s.grs ++ [(i :: st2).reverse]).filterMap List.getLast?))
    have eh : (s.grs ++ [(i :: st2).reverse]).filterMap List.getLast? = s.grs.filterMap List.getLast? ++ [i] := by
      rw [List.filterMap_append]; simp
    rw [eh, List.filter_append]
    have hif := h2.not_fin e
    have e1 : s.fin.filter (fun v => decide (v ∈ s.grs.filterMap List.getLast? ++ [i])) = s.fin.filter (fun v => decide (v ∈ s.grs.filterMap List.getLast?)) := by
      apply List.filter_congr
      intro x hx
      have : x ≠ i := fun eq => hif (eq ▸ hx)
      simp [this]
    rw [e1, ← h2.hds]
    simp
  · rcases List.mem_append.1 hc with hc | hc
    · exact h2.hmx_snoc i c hc hd hl v hv
    · have ec : c = (i :: st2).reverse := by simpa using hc
      subst ec
      have ehd : hd = i := by simpa using hl.symm
      subst ehd
      have hif := h2.not_fin e
      rw [ordOf_append_new hif]
      have hv' : v = hd ∨ v ∈ st2 := by simpa [or_comm] using hv
      rcases hv' with rfl | hv'
      · exact ⟨by simp, by rw [ordOf_append_new hif]; exact Nat.le_refl _⟩
      · have hs := h.srt
        rw [es, List.pairwise_append] at hs
        have hlt := (List.pairwise_cons.1 hs.2.1).1 v hv'
        have hvs : v ∈ s.stk := by rw [es]; simp [hv']
        have hvf : v ∈ s.fin := (h2.fmem v).2 ⟨h.stk_pre hvs, fun q hq eq => by
          rw [e] at hq
          rcases List.mem_append.1 hq with hq | hq
          · have := (h.ws_lt e q hq).2
            rw [eq] at this; omega
          · simp at hq; subst hq; have eq' : hd = v := eq
            rw [eq'] at hlt; omega⟩
        refine ⟨by simp [hvf], ?_⟩
        rw [ordOf_append_mem hvf]
        have := ordOf_le (p := s.fin) (v := v)
        omega
end pop

end Go.Proofs.Qxb6603026a
