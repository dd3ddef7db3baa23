/-
  The plain law of graph.cycleThrough: the search from the first step, the way back. No Go in sight.
-/
import Derived.Test.Qxb6603026aKosPure
namespace Go.Proofs.Qxb6603026a

/-- the queue's tree: q are the steps met, in order; cm x the step that x was met from -/
structure Tree (g : Gr) (c : List Nat) (f : Nat) (q : List Nat) (cm : Nat → Nat) : Prop where
  nd : q.Nodup
  sub : ∀ x ∈ q, x ∈ c
  hd : nd0 q 0 = f
  pos : 0 < q.length
  par : ∀ x ∈ q, x ≠ f → cm x ∈ q ∧ ordOf q (cm x) < ordOf q x ∧ g.Edge (cm x) x

theorem Tree.start {g : Gr} {c : List Nat} {f : Nat} (hf : f ∈ c) (cm : Nat → Nat) : Tree g c f [f] cm :=
  ⟨by simp, by simpa using hf, rfl, by simp, fun x hx hn => by simp at hx; exact absurd hx hn⟩
theorem Tree.mem {g : Gr} {c : List Nat} {f : Nat} {q : List Nat} {cm : Nat → Nat} (h : Tree g c f q cm) : f ∈ q := by rw [← h.hd]; exact nd0_mem h.pos
theorem Tree.push {g : Gr} {c : List Nat} {f : Nat} {q : List Nat} {cm : Nat → Nat} (h : Tree g c f q cm) {i j : Nat} (hi : i ∈ q) (hj : j ∈ c) (hjq : j ∉ q) (he : g.Edge i j) : Tree g c f (q ++ [j]) (upd cm j i) := by
  refine ⟨?_, ?_, by rw [nd0_append h.pos]; exact h.hd, by simp, fun x hx hxf => ?_⟩
  · rw [List.nodup_append]
    refine ⟨h.nd, by simp, fun a ha b hb => ?_⟩
    simp at hb; subst hb; exact fun e => hjq (e ▸ ha)
  · intro x hx
    rcases List.mem_append.1 hx with hx | hx
    · exact h.sub x hx
    · simp at hx; subst hx; exact hj
  · by_cases e : x = j
    · subst e
      rw [upd_self]
      refine ⟨by simp [hi], ?_, he⟩
      rw [ordOf_append_mem hi, ordOf_append_new hjq]
      have := ordOf_le (p := q) (v := i)
      omega
    · have hxq : x ∈ q := by simpa [e] using hx
      have hp := h.par x hxq hxf
      rw [upd_other e]
      exact ⟨by simp [hp.1], by rw [ordOf_append_mem hp.1, ordOf_append_mem hxq]; exact hp.2.1, hp.2.2⟩

/-- no edge gone through leads to f -/
def NoBack (g : Gr) (f : Nat) (q : List Nat) (h k : Nat) : Prop :=
  (∀ t, t < h → ∀ k', k' < g.deg (nd0 q t) → g.nx (nd0 q t) k' ≠ f) ∧ ∀ k', k' < k → g.nx (nd0 q h) k' ≠ f
theorem NoBack.start (g : Gr) (f : Nat) (q : List Nat) : NoBack g f q 0 0 := ⟨fun t ht => by omega, fun k hk => by omega⟩
theorem NoBack.step {g : Gr} {f : Nat} {q : List Nat} {h k : Nat} (hc : NoBack g f q h k) (hk : g.nx (nd0 q h) k ≠ f) : NoBack g f q h (k + 1) := by
  refine ⟨hc.1, fun k' hk' => ?_⟩
  by_cases e : k' = k
  · subst e; exact hk
  · exact hc.2 k' (by omega)
theorem NoBack.append {g : Gr} {f : Nat} {q : List Nat} {h k j : Nat} (hc : NoBack g f q h k) (hh : h < q.length) : NoBack g f (q ++ [j]) h k := by
  refine ⟨fun t ht k' hk' => ?_, fun k' hk' => ?_⟩
  · rw [nd0_append (by omega)] at hk' ⊢
    exact hc.1 t ht k' hk'
  · rw [nd0_append hh]
    exact hc.2 k' hk'
theorem NoBack.next {g : Gr} {f : Nat} {q : List Nat} {h : Nat} (hc : NoBack g f q h (g.deg (nd0 q h))) : NoBack g f q (h + 1) 0 := by
  refine ⟨fun t ht => ?_, fun k hk => by omega⟩
  by_cases e : t = h
  · subst e; exact hc.2
  · exact hc.1 t (by omega)

/-- some step of the group has an edge to f -/
def HasBack (g : Gr) (c : List Nat) (f : Nat) : Prop := ∃ x ∈ c, g.Edge x f
theorem rn_last {g : Gr} {t a b : Nat} (h : g.RN (t + 1) a b) : ∃ x, g.RN t a x ∧ g.Edge x b := by
  induction t generalizing a with
  | zero =>
    obtain ⟨x, he, hr⟩ := h
    simp only [Gr.RN] at hr
    subst hr
    exact ⟨a, rfl, he⟩
  | succ t ih =>
    obtain ⟨x, he, hr⟩ := h
    obtain ⟨y, h1, h2⟩ := ih hr
    exact ⟨y, ⟨x, he, h1⟩, h2⟩
/-- a group of two or more has one -/
theorem hasBack_of {g : Gr} {gs : List (List Nat)} (hs : Scc g gs) (ok : g.Ok) {i : Nat} {c : List Nat} (hc : gs[i]? = some c) {f y : Nat} (hf : f ∈ c) (hy : y ∈ c) (hne : y ≠ f) : HasBack g c f := by
  obtain ⟨t, hr⟩ := hs.conn i c hc y hy f hf
  cases t with
  | zero => simp only [Gr.RN] at hr; exact absurd hr hne
  | succ t =>
    obtain ⟨x, h1, h2⟩ := rn_last hr
    have hyn := hs.lt i c hc y hy
    have a := hs.whr_rn ok hyn h1
    have e1 := hs.whr_eq hc hy
    have e2 := hs.whr_eq hc hf
    obtain ⟨k, hk, e⟩ := h2
    have b := hs.whr_edge a.1 hk
    rw [e] at b
    exact ⟨x, (hs.mem_iff hc a.1).2 (by omega), k, hk, e⟩
/-- so the queue does not run dry -/
theorem not_dry {g : Gr} {gs : List (List Nat)} (hs : Scc g gs) (ok : g.Ok) {i : Nat} {c : List Nat} (hc : gs[i]? = some c) {f : Nat} {q : List Nat} {cm : Nat → Nat} (ht : Tree g c f q cm) (hb : HasBack g c f) (hcl : Cl g c q q.length 0) (hnb : NoBack g f q q.length 0) : False := by
  have hall := hs.fill_fwd ok hc ht.mem (ht.sub f ht.mem) ht.sub hcl.done
  obtain ⟨x, hx, k, hk, e⟩ := hb
  obtain ⟨t, ht1, rfl⟩ := mem_nd0 (hall x hx)
  exact hnb.1 t ht1 k hk e

/-- each leads to the next -/
def Links (g : Gr) : List Nat → Prop
  | [] => True
  | [_] => True
  | a :: b :: l => g.Edge a b ∧ Links g (b :: l)
theorem Links.at {g : Gr} : ∀ {l : List Nat}, Links g l → ∀ t, t + 1 < l.length → g.Edge (nd0 l t) (nd0 l (t + 1))
  | [], _, t, ht => by simp at ht
  | [_], _, t, ht => by simp at ht
  | a :: b :: l, h, 0, _ => h.1
  | a :: b :: l, h, t + 1, ht => by
    have := Links.at h.2 t (by simpa using ht)
    simpa [nd0] using this
theorem Links.snoc {g : Gr} : ∀ {l : List Nat} {b : Nat}, Links g l → (∀ x, l.getLast? = some x → g.Edge x b) → Links g (l ++ [b])
  | [], _, _, _ => trivial
  | [a], b, _, h => ⟨h a rfl, trivial⟩
  | a :: a2 :: l, b, hl, h => ⟨hl.1, Links.snoc hl.2 (fun x hx => h x (by simpa [List.getLast?_cons_cons] using hx))⟩

/-- the way back so far: from k, through R, to i -/
structure Way (g : Gr) (f : Nat) (q : List Nat) (i k : Nat) (R : List Nat) : Prop where
  kq : k ∈ q
  rq : ∀ x ∈ R, x ∈ q ∧ ordOf q k < ordOf q x ∧ x ≠ f
  nd : R.Nodup
  lnk : Links g (k :: R)
  last : (k :: R).getLast? = some i

theorem Way.start {g : Gr} {f : Nat} {q : List Nat} {i : Nat} (hi : i ∈ q) : Way g f q i i [] := ⟨hi, by simp, by simp, trivial, rfl⟩
theorem Way.step {g : Gr} {c : List Nat} {f : Nat} {q : List Nat} {cm : Nat → Nat} (ht : Tree g c f q cm) {i k : Nat} {R : List Nat} (h : Way g f q i k R) (hk : k ≠ f) : Way g f q i (cm k) (k :: R) := by
  have hp := ht.par k h.kq hk
  refine ⟨hp.1, fun x hx => ?_, ?_, ⟨hp.2.2, h.lnk⟩, by rw [List.getLast?_cons_cons]; exact h.last⟩
  · rcases List.mem_cons.1 hx with rfl | hx
    · exact ⟨h.kq, hp.2.1, hk⟩
    · have := h.rq x hx
      exact ⟨this.1, by omega, this.2.2⟩
  · rw [List.nodup_cons]
    exact ⟨fun hx => by have := (h.rq k hx).2.1; omega, h.nd⟩

/-- what cycleThrough hands back: f :: R ++ [f] -/
structure Cyc (g : Gr) (c : List Nat) (f : Nat) (R : List Nat) : Prop where
  nd : R.Nodup
  sub : ∀ x ∈ R, x ∈ c ∧ x ≠ f
  lnk : Links g (f :: R ++ [f])
theorem Way.done {g : Gr} {c : List Nat} {f : Nat} {q : List Nat} {cm : Nat → Nat} (ht : Tree g c f q cm) {i : Nat} {R : List Nat} (h : Way g f q i f R) (he : g.Edge i f) : Cyc g c f R :=
  ⟨h.nd, fun x hx => ⟨ht.sub x (h.rq x hx).1, (h.rq x hx).2.2⟩, h.lnk.snoc (fun x hx => by rw [h.last] at hx; cases hx; exact he)⟩
theorem Cyc.length {g : Gr} {c : List Nat} {f : Nat} {R : List Nat} (h : Cyc g c f R) (hf : f ∈ c) : R.length + 1 ≤ c.length := by
  have hn : (f :: R).Nodup := List.nodup_cons.2 ⟨fun hx => (h.sub f hx).2 rfl, h.nd⟩
  have := length_le_of_nodup hn (m := c) (fun x hx => by
    rcases List.mem_cons.1 hx with rfl | hx
    · exact hf
    · exact (h.sub x hx).1)
  simpa using this

end Go.Proofs.Qxb6603026a
