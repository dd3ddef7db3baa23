/-
  The plain law of the two searches inside a group. No Go in sight.
-/
import Derived.Test.Qxb6603026aPredPure
namespace Go.Proofs.Qxb6603026a

/-- element t of a list of nodes -/
def nd0 (q : List Nat) (t : Nat) : Nat := q.getD t 0
theorem nd0_mem {q : List Nat} {t : Nat} (h : t < q.length) : nd0 q t ∈ q := by
  simp only [nd0, List.getD_eq_getElem?_getD, List.getElem?_eq_getElem h, Option.getD_some]; exact List.getElem_mem h
theorem nd0_append {q r : List Nat} {t : Nat} (h : t < q.length) : nd0 (q ++ r) t = nd0 q t := by
  simp [nd0, List.getElem?_append_left h]
theorem mem_nd0 {q : List Nat} {x : Nat} (h : x ∈ q) : ∃ t, t < q.length ∧ nd0 q t = x := by
  obtain ⟨t, ht, e⟩ := List.mem_iff_getElem.1 h
  exact ⟨t, ht, by simp [nd0, ht, e]⟩
theorem at0_nd0 {q : List Nat} {t : Nat} (h : t < q.length) : at0 (ns q) t = ((nd0 q t : Nat) : Int) := by
  rw [at0_ns h]; simp [nd0, h]

/-- the queue q lies in the group c; the marks tell just its members -/
structure Marks (c : List Nat) (n mark : Nat) (q : List Nat) (sf : List Int) : Prop where
  nd : q.Nodup
  sub : ∀ x ∈ q, x ∈ c
  len : sf.length = n
  tell : ∀ v, v < n → (at0 sf v = (mark : Int) ↔ v ∈ q)
  rng : ∀ v, v < n → 0 ≤ at0 sf v ∧ at0 sf v ≤ (mark : Int)

theorem Marks.add {c : List Nat} {n mark : Nat} {q : List Nat} {sf : List Int} (h : Marks c n mark q sf) {j : Nat} (hj : j < n) (hc : j ∈ c) (hq : j ∉ q) : Marks c n mark (q ++ [j]) (sf.set j (mark : Int)) := by
  refine ⟨?_, ?_, by simpa using h.len, fun v hv => ?_, fun v hv => ?_⟩
  · rw [List.nodup_append]
    refine ⟨h.nd, by simp, fun a ha b hb => ?_⟩
    simp at hb; subst hb; exact fun e => hq (e ▸ ha)
  · intro x hx
    rcases List.mem_append.1 hx with hx | hx
    · exact h.sub x hx
    · simp at hx; subst hx; exact hc
  · by_cases e : v = j
    · subst e; rw [at0_set_self (by rw [h.len]; exact hv)]; simp
    · rw [at0_set_other e, h.tell v hv]; simp [e]
  · by_cases e : v = j
    · subst e; rw [at0_set_self (by rw [h.len]; exact hv)]; omega
    · rw [at0_set_other e]; exact h.rng v hv
/-- a new group's search begins -/
theorem Marks.start {c : List Nat} {n mark f : Nat} {sf : List Int} (hl : sf.length = n) (hr : ∀ v, v < n → 0 ≤ at0 sf v ∧ at0 sf v < (mark : Int)) (hf : f < n) (hc : f ∈ c) : Marks c n mark [f] (sf.set f (mark : Int)) := by
  refine ⟨by simp, by simpa using hc, by simpa using hl, fun v hv => ?_, fun v hv => ?_⟩
  · by_cases e : v = f
    · subst e; rw [at0_set_self (by omega)]; simp
    · rw [at0_set_other e]
      have := hr v hv
      simp [e]; omega
  · by_cases e : v = f
    · subst e; rw [at0_set_self (by omega)]; omega
    · rw [at0_set_other e]
      have := hr v hv
      omega

/-- the first h of the queue, and the first k edges of the next, lead to nothing new in the group -/
def Cl (g : Gr) (c q : List Nat) (h k : Nat) : Prop :=
  (∀ t, t < h → ∀ k', k' < g.deg (nd0 q t) → g.nx (nd0 q t) k' ∈ c → g.nx (nd0 q t) k' ∈ q) ∧ ∀ k', k' < k → g.nx (nd0 q h) k' ∈ c → g.nx (nd0 q h) k' ∈ q
theorem Cl.start (g : Gr) (c q : List Nat) : Cl g c q 0 0 := ⟨fun t ht => by omega, fun k hk => by omega⟩
theorem Cl.step {g : Gr} {c q : List Nat} {h k : Nat} (hc : Cl g c q h k) (hk : g.nx (nd0 q h) k ∈ c → g.nx (nd0 q h) k ∈ q) : Cl g c q h (k + 1) := by
  refine ⟨hc.1, fun k' hk' => ?_⟩
  by_cases e : k' = k
  · subst e; exact hk
  · exact hc.2 k' (by omega)
theorem Cl.append {g : Gr} {c q : List Nat} {h k j : Nat} (hc : Cl g c q h k) (hh : h < q.length) : Cl g c (q ++ [j]) h k := by
  refine ⟨fun t ht k' hk' hm => ?_, fun k' hk' hm => ?_⟩
  · rw [nd0_append (by omega)] at hk' hm ⊢
    exact List.mem_append.2 (.inl (hc.1 t ht k' hk' hm))
  · rw [nd0_append hh] at hm ⊢
    exact List.mem_append.2 (.inl (hc.2 k' hk' hm))
theorem Cl.next {g : Gr} {c q : List Nat} {h : Nat} (hc : Cl g c q h (g.deg (nd0 q h))) : Cl g c q (h + 1) 0 := by
  refine ⟨fun t ht => ?_, fun k hk => by omega⟩
  by_cases e : t = h
  · subst e; exact hc.2
  · exact hc.1 t (by omega)
theorem Cl.done {g : Gr} {c q : List Nat} (hc : Cl g c q q.length 0) : ∀ x ∈ q, ∀ k, k < g.deg x → g.nx x k ∈ c → g.nx x k ∈ q := by
  intro x hx k hk hm
  obtain ⟨t, ht, rfl⟩ := mem_nd0 hx
  exact hc.1 t ht k hk hm

/-- the edges turned round, as predecessors lays them out -/
def revGr (g : Gr) (pr : List Int) : Gr := ⟨g.n, fun v => below (edgesTo g g.n) (v + 1) - below (edgesTo g g.n) v, fun v k => (at0 pr (below (edgesTo g g.n) v + k)).toNat⟩

theorem PredSpec.rev_ok {g : Gr} {st pr : List Int} (h : PredSpec g st pr) {v k : Nat} (hv : v < g.n) (hk : k < (revGr g pr).deg v) : ∃ u : Nat, at0 pr (below (edgesTo g g.n) v + k) = (u : Int) ∧ u < g.n ∧ g.Edge u v ∧ (revGr g pr).nx v k = u := by
  have hk' : k < below (edgesTo g g.n) (v + 1) - below (edgesTo g g.n) v := hk
  obtain ⟨u, a, b, c⟩ := h.2.2.1 v hv (below (edgesTo g g.n) v + k) (by omega) (by omega)
  refine ⟨u, a, b, c, ?_⟩
  show (at0 pr (below (edgesTo g g.n) v + k)).toNat = u
  rw [a]; simp

/-- after the forward search -/
theorem fwd_full {g : Gr} {gs : List (List Nat)} (hs : Scc g gs) (ok : g.Ok) {i : Nat} {c q : List Nat} {f mark : Nat} {sf : List Int} (hc : gs[i]? = some c) (hm : Marks c g.n mark q sf) (hf : f ∈ q) (hcl : Cl g c q q.length 0) : q.length = c.length :=
  length_eq_of hm.nd (hs.nd i c hc) hm.sub (hs.fill_fwd ok hc hf (hm.sub f hf) hm.sub hcl.done)
/-- after the backward search -/
theorem bwd_full {g : Gr} {gs : List (List Nat)} (hs : Scc g gs) (ok : g.Ok) {st pr : List Int} (hp : PredSpec g st pr) {i : Nat} {c q : List Nat} {f mark : Nat} {sf : List Int} (hc : gs[i]? = some c) (hm : Marks c g.n mark q sf) (hf : f ∈ q) (hcl : Cl (revGr g pr) c q q.length 0) : q.length = c.length := by
  refine length_eq_of hm.nd (hs.nd i c hc) hm.sub (hs.fill_bwd ok hc hf (hm.sub f hf) (fun x hx u hu he => ?_))
  have hxn := hs.lt i c hc x (hm.sub x hx)
  have hun := hs.lt i c hc u hu
  obtain ⟨q1, h1, h2, h3⟩ := hp.2.2.2 u x hun hxn he
  have hk : q1 - below (edgesTo g g.n) x < (revGr g pr).deg x := by
    show q1 - _ < below (edgesTo g g.n) (x + 1) - _
    omega
  have hnx : (revGr g pr).nx x (q1 - below (edgesTo g g.n) x) = u := by
    show (at0 pr (below (edgesTo g g.n) x + (q1 - below (edgesTo g g.n) x))).toNat = u
    rw [show below (edgesTo g g.n) x + (q1 - below (edgesTo g g.n) x) = q1 by omega, h3]; simp
  have := hcl.done x hx _ hk (by rw [hnx]; exact hu)
  rwa [hnx] at this

end Go.Proofs.Qxb6603026a
