/-
  What the groups are: the strongly connected parts, dependencies first. No Go in sight.
-/
import Derived.Test.Qxb6603026aGAll
namespace Go.Proofs.Qxb6603026a

/-- gs splits the nodes into strongly connected parts, none of which leads to a later one -/
structure Scc (g : Gr) (gs : List (List Nat)) : Prop where
  lt : ∀ (i : Nat) (c : List Nat), gs[i]? = some c → ∀ v ∈ c, v < g.n
  ne : ∀ (i : Nat) (c : List Nat), gs[i]? = some c → c ≠ []
  nd : ∀ (i : Nat) (c : List Nat), gs[i]? = some c → c.Nodup
  all : ∀ v, v < g.n → ∃ (i : Nat) (c : List Nat), gs[i]? = some c ∧ v ∈ c
  one : ∀ (i j : Nat) (c c' : List Nat) (v : Nat), gs[i]? = some c → gs[j]? = some c' → v ∈ c → v ∈ c' → i = j
  edge : ∀ (i : Nat) (c : List Nat), gs[i]? = some c → ∀ v ∈ c, ∀ k, k < g.deg v → ∃ (j : Nat) (c' : List Nat), j ≤ i ∧ gs[j]? = some c' ∧ g.nx v k ∈ c'
  conn : ∀ (i : Nat) (c : List Nat), gs[i]? = some c → ∀ x ∈ c, ∀ y ∈ c, g.Reach x y

theorem scc_of {g : Gr} {s : TS} (h : TInv g s) (hw : s.wlk = []) (hp : ∀ v, v < g.n → v ∈ s.pre) : Scc g s.grs := by
  have hs := h.stk_nil hw
  have mem : ∀ {i : Nat} {c : List Nat}, s.grs[i]? = some c → c ∈ s.grs := fun hc => List.mem_of_getElem? hc
  refine ⟨fun i c hc v hv => h.lt v ((h.cover v).2 (.inr ⟨c, mem hc, hv⟩)), fun i c hc => (h.gnd c (mem hc)).2, fun i c hc => (h.gnd c (mem hc)).1, fun v hv => ?_, fun i j c c' v hc hc' hv hv' => ?_, h.ged, fun i c hc => h.grp c (mem hc)⟩
  · rcases (h.cover v).1 (hp v hv) with hh | ⟨c, hc, hv⟩
    · rw [hs] at hh; cases hh
    · obtain ⟨i, hi, rfl⟩ := List.mem_iff_getElem.1 hc
      exact ⟨i, _, List.getElem?_eq_getElem hi, hv⟩
  · have hpw := h.gdisj
    obtain ⟨hi, ei⟩ := List.getElem?_eq_some_iff.1 hc
    obtain ⟨hj, ej⟩ := List.getElem?_eq_some_iff.1 hc'
    rcases Nat.lt_trichotomy i j with hlt | heq | hlt
    · exact absurd (by rw [ej]; exact hv') (List.pairwise_iff_getElem.1 hpw i j hi hj hlt v (by rw [ei]; exact hv))
    · exact heq
    · exact absurd (by rw [ei]; exact hv) (List.pairwise_iff_getElem.1 hpw j i hj hi hlt v (by rw [ej]; exact hv'))

/-- the index of the group that holds v -/
def whr (gs : List (List Nat)) (v : Nat) : Nat := gs.findIdx (fun c => decide (v ∈ c))

namespace Scc
variable {g : Gr} {gs : List (List Nat)}

theorem whr_lt (h : Scc g gs) {v : Nat} (hv : v < g.n) : whr gs v < gs.length := by
  obtain ⟨i, c, hc, hm⟩ := h.all v hv
  unfold whr
  rw [List.findIdx_lt_length]
  exact ⟨c, List.mem_of_getElem? hc, by simpa using hm⟩
theorem whr_mem (h : Scc g gs) {v : Nat} (hv : v < g.n) : ∃ c, gs[whr gs v]? = some c ∧ v ∈ c := by
  have hl := h.whr_lt hv
  refine ⟨gs[whr gs v], List.getElem?_eq_getElem hl, ?_⟩
  have := List.findIdx_getElem (p := fun c => decide (v ∈ c)) (xs := gs) (w := hl)
  exact of_decide_eq_true this
theorem whr_eq (h : Scc g gs) {i : Nat} {c : List Nat} {v : Nat} (hc : gs[i]? = some c) (hv : v ∈ c) : whr gs v = i := by
  obtain ⟨c', hc', hv'⟩ := h.whr_mem (h.lt i c hc v hv)
  exact h.one _ _ _ _ v hc' hc hv' hv
theorem mem_iff (h : Scc g gs) {i : Nat} {c : List Nat} {v : Nat} (hc : gs[i]? = some c) (hv : v < g.n) : v ∈ c ↔ whr gs v = i := by
  constructor
  · exact fun hm => h.whr_eq hc hm
  · intro e
    obtain ⟨c', hc', hm⟩ := h.whr_mem hv
    rw [e, hc] at hc'
    cases hc'
    exact hm
/-- an edge leads to no later group -/
theorem whr_edge (h : Scc g gs) {v k : Nat} (hv : v < g.n) (hk : k < g.deg v) : whr gs (g.nx v k) ≤ whr gs v := by
  obtain ⟨c, hc, hm⟩ := h.whr_mem hv
  obtain ⟨j, c', hj, hc', hm'⟩ := h.edge _ c hc v hm k hk
  rw [h.whr_eq hc' hm']
  exact hj
theorem whr_rn (h : Scc g gs) (ok : g.Ok) {t a b : Nat} (ha : a < g.n) (hr : g.RN t a b) : b < g.n ∧ whr gs b ≤ whr gs a := by
  induction t generalizing a with
  | zero => simp only [Gr.RN] at hr; subst hr; exact ⟨ha, Nat.le_refl _⟩
  | succ t ih =>
    obtain ⟨c, ⟨k, hk, rfl⟩, hr⟩ := hr
    have h1 := h.whr_edge ha hk
    have h2 := ih (ok a ha k hk) hr
    exact ⟨h2.1, Nat.le_trans h2.2 h1⟩

/-- a set that holds one node of a group and is closed under the edges inside the group holds the whole group -/
theorem fill_fwd (h : Scc g gs) (ok : g.Ok) {i : Nat} {c : List Nat} (hc : gs[i]? = some c) {q : List Nat} {a : Nat} (ha : a ∈ q) (hac : a ∈ c) (hq : ∀ x ∈ q, x ∈ c) (hcl : ∀ x ∈ q, ∀ k, k < g.deg x → g.nx x k ∈ c → g.nx x k ∈ q) : ∀ y ∈ c, y ∈ q := by
  intro y hy
  obtain ⟨t, hr⟩ := h.conn i c hc a hac y hy
  clear hac
  induction t generalizing a with
  | zero => simp only [Gr.RN] at hr; subst hr; exact ha
  | succ t ih =>
    obtain ⟨b, ⟨k, hk, rfl⟩, hr⟩ := hr
    have hac := hq a ha
    have han := h.lt i c hc a hac
    have e1 := h.whr_eq hc hac
    have e2 := h.whr_edge han hk
    have e3 := h.whr_rn ok (ok a han k hk) hr
    have e4 := h.whr_eq hc hy
    have hbc : g.nx a k ∈ c := (h.mem_iff hc (ok a han k hk)).2 (by omega)
    exact ih (hcl a ha k hk hbc) hr
theorem fill_bwd (h : Scc g gs) (ok : g.Ok) {i : Nat} {c : List Nat} (hc : gs[i]? = some c) {q : List Nat} {a : Nat} (ha : a ∈ q) (hac : a ∈ c) (hcl : ∀ x ∈ q, ∀ u, u ∈ c → (∃ k, k < g.deg u ∧ g.nx u k = x) → u ∈ q) : ∀ y ∈ c, y ∈ q := by
  intro y hy
  obtain ⟨t, hr⟩ := h.conn i c hc y hy a hac
  induction t generalizing y with
  | zero => simp only [Gr.RN] at hr; subst hr; exact ha
  | succ t ih =>
    obtain ⟨b, ⟨k, hk, rfl⟩, hr⟩ := hr
    have hyn := h.lt i c hc y hy
    have e1 := h.whr_eq hc hy
    have e2 := h.whr_edge hyn hk
    have e3 := h.whr_rn ok (ok y hyn k hk) hr
    have e4 := h.whr_eq hc hac
    have hbc : g.nx y k ∈ c := (h.mem_iff hc (ok y hyn k hk)).2 (by omega)
    exact hcl _ (ih _ hbc hr) y hy ⟨k, hk, rfl⟩
end Scc

theorem length_eq_of {q c : List Nat} (hq : q.Nodup) (hc : c.Nodup) (h1 : ∀ x ∈ q, x ∈ c) (h2 : ∀ x ∈ c, x ∈ q) : q.length = c.length :=
  Nat.le_antisymm (length_le_of_nodup hq h1) (length_le_of_nodup hc h2)

theorem grOf_ok {d : List (List Int)} (h : ∀ i, i < d.length → ∀ k, k < (row0 d i).length → 0 ≤ at0 (row0 d i) k ∧ at0 (row0 d i) k < d.length) : (grOf d).Ok := by
  intro v hv k hk
  have := h v hv k hk
  show (at0 (row0 d v) k).toNat < d.length
  omega

end Go.Proofs.Qxb6603026a
