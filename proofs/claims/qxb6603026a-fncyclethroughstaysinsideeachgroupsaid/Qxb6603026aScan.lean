/-
  The moves of the walk, each as a whole: invariant, order, measure. No Go in sight.
-/
import Derived.Test.Qxb6603026aGAll
namespace Go.Proofs.Qxb6603026a

section
variable {g : Gr} {s : TS} {ws : List (Nat × Nat)} {i k : Nat}

/-- what has been looked at has been met -/
theorem TInv.scanned_pre (h : TInv g s) {x k' : Nat} (hx : x ∈ s.stk) (hs : s.Scanned g x k') : g.nx x k' ∈ s.pre := by
  by_cases hw : ∃ q ∈ s.wlk, q.1 = x
  · obtain ⟨q, hq, eq⟩ := hw
    have := h.gry q hq k' (hs.2 q hq eq)
    rw [eq] at this; exact this
  · exact h.blk x (h.stk_pre hx) (fun q hq eq => hw ⟨q, hq, eq⟩) k' hs.1

/-- the next edge of the top frame leads to a new node -/
theorem TInv.scan_new (h : TInv g s) (h2 : TInv2 s) (e : s.wlk = ws ++ [(i, k)]) (hk : k < g.deg i) (hj : g.nx i k < g.n) (hnew : g.nx i k ∉ s.pre) :
    TInv g (TS.visit { s with wlk := ws ++ [(i, k + 1)] } (g.nx i k)) ∧ TInv2 (TS.visit { s with wlk := ws ++ [(i, k + 1)] } (g.nx i k)) := by
  have hv := h.visit hj hnew (fun y hy => (h.to_top e hy).trans (Gr.Reach.of_nx hk)) (fun x hx k' hs eq => hnew (eq ▸ h.scanned_pre hx hs))
  have hv2 := TInv2.visit h h2 hnew
  have ew : (s.visit (g.nx i k)).wlk = ws ++ (i, k) :: [(g.nx i k, 0)] := by simp [TS.visit, e]
  have hi : (i, k) ∈ (s.visit (g.nx i k)).wlk := by rw [ew]; simp
  have hio : i ∈ s.pre := h.stk_pre (h.wst (i, k) (by rw [e]; simp)).1
  have hlo := hv.lo _ hi
  have hb := hv.bump ew hk (nl := (s.visit (g.nx i k)).low i) (by simp [TS.visit]) (Nat.le_refl _) (fun _ => ?_) hlo.2
  · have hb2 := hv2.bump (upd (s.visit (g.nx i k)).low i ((s.visit (g.nx i k)).low i)) ew
    have hl : upd (s.visit (g.nx i k)).low i ((s.visit (g.nx i k)).low i) = (s.visit (g.nx i k)).low := by
      funext v; unfold upd; split
      · rename_i ev; rw [ev]
      · rfl
    rw [hl] at hb hb2
    have ews : ws ++ (i, k + 1) :: [(g.nx i k, 0)] = (ws ++ [(i, k + 1)]) ++ [(g.nx i k, 0)] := by simp
    rw [ews] at hb hb2
    exact ⟨hb, hb2⟩
  · refine Nat.le_trans hlo.1 ?_
    show ordOf (s.pre ++ [g.nx i k]) i ≤ ordOf (s.pre ++ [g.nx i k]) (g.nx i k)
    rw [ordOf_append_mem hio, ordOf_append_new hnew]
    have := ordOf_le (p := s.pre) (v := i)
    omega

/-- .. to a node of the stack -/
theorem TInv.scan_stk (h : TInv g s) (h2 : TInv2 s) (e : s.wlk = ws ++ [(i, k)]) (hk : k < g.deg i) (hj : g.nx i k ∈ s.stk) :
    TInv g { s with wlk := ws ++ [(i, k + 1)], low := upd s.low i (min (s.low i) (s.ord (g.nx i k))) } ∧ TInv2 { s with wlk := ws ++ [(i, k + 1)], low := upd s.low i (min (s.low i) (s.ord (g.nx i k))) } := by
  have hi : (i, k) ∈ s.wlk := by rw [e]; simp
  obtain ⟨a, u, hu, b, c⟩ := h.lo _ hi
  refine ⟨h.bump e hk (h.stk_pre hj) (Nat.min_le_left _ _) (fun _ => Nat.min_le_right _ _) ?_, h2.bump _ e⟩
  rcases Nat.le_total (s.low i) (s.ord (g.nx i k)) with hm | hm
  · exact ⟨u, hu, by rw [Nat.min_eq_left hm]; exact b, c⟩
  · exact ⟨_, hj, by rw [Nat.min_eq_right hm], Gr.Reach.of_nx hk⟩

/-- .. to a node of a finished group -/
theorem TInv.scan_done (h : TInv g s) (h2 : TInv2 s) (e : s.wlk = ws ++ [(i, k)]) (hk : k < g.deg i) (hj : g.nx i k ∈ s.pre) (hn : g.nx i k ∉ s.stk) :
    TInv g { s with wlk := ws ++ [(i, k + 1)] } ∧ TInv2 { s with wlk := ws ++ [(i, k + 1)] } := by
  have hi : (i, k) ∈ s.wlk := by rw [e]; simp
  obtain ⟨a, u, hu, b, c⟩ := h.lo _ hi
  have hb := h.bump e hk hj (nl := s.low i) (Nat.le_refl _) (fun hs => absurd hs hn) ⟨u, hu, b, c⟩
  have hl : upd s.low i (s.low i) = s.low := by
    funext v; unfold upd; split
    · rename_i ev; rw [ev]
    · rfl
  rw [hl] at hb
  exact ⟨hb, h2.bump _ e⟩
end

end Go.Proofs.Qxb6603026a
