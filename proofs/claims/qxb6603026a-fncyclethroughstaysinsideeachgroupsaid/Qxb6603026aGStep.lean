/-
  graph.groups (function 31): what each move of a round does to memory and state.
-/
import Derived.Test.Qxb6603026aGRel
import Derived.Test.Qxb6603026aScan
namespace Go.Proofs.Qxb6603026a
open Go.RowKit

section
variable {H n : Nat} {s : TS} {w w' : World} {sv wv gv : Value} {ws : List (Nat × Nat)} {i k gw wcap : Nat}

theorem GMem.drewN (h : GMem H n s w sv wv) (q : Nat) : GMem H n s (w.drewN q) sv wv :=
  ⟨h.mem.drewN q, h.stk.kept ⟨rfl, rfl, rfl, Nat.le_refl _, fun _ _ _ => rfl⟩ (row := none) (by cases sv.ownBlock <;> simp), h.wlk.kept ⟨rfl, rfl, rfl, Nat.le_refl _, fun _ _ _ => rfl⟩ (row := none) (by cases wv.ownBlock <;> simp)⟩
theorem GMem.drew (h : GMem H n s w sv wv) : GMem H n s w.drew sv wv := ⟨h.mem.drew, h.stk.drew, h.wlk.drew⟩

/-- the top frame's count is raised -/
theorem GMem.bumpw (h : GMem H n s w sv (.slice (some ⟨gw, 0, none⟩) (ws.length + 1) wcap)) (e : s.wlk = ws ++ [(i, k)]) (hgw : H + 10 ≤ gw) {z : Int} (hz : z = ((k + 1 : Nat) : Int)) :
    GMem H n { s with wlk := ws ++ [(i, k + 1)] } (w.setCell ⟨gw, ws.length * 2 + 1, none⟩ (.int .i64 z)) sv (.slice (some ⟨gw, 0, none⟩) (ws.length + 1) wcap) ∧
      GFr H (SW sv (.slice (some ⟨gw, 0, none⟩) (ws.length + 1) wcap)) w (w.setCell ⟨gw, ws.length * 2 + 1, none⟩ (.int .i64 z)) := by
  have hw := h.wlk
  rw [e] at hw
  have hl : (ws ++ [(i, k)]).length = ws.length + 1 := by simp
  rw [hl] at hw
  obtain ⟨h1, h2⟩ := World.ownsRow.stored hw (ws.length * 2 + 1) (.int .i64 z)
  subst hz
  rw [frs_set_last] at h1
  refine ⟨⟨h.mem.far hgw _, h.stk.kept h2 (ownBlock_ne h.stk hw (by decide)), ?_⟩, (GFr.refl _ _ _).setCell (by show H < gw; omega) (fun _ => .inl (.inr rfl)) _⟩
  show World.ownsRow _ (H + 10) 67 2 _ (ws ++ [(i, k + 1)]).length (frs (ws ++ [(i, k + 1)]))
  have hl' : (ws ++ [(i, k + 1)]).length = ws.length + 1 := by simp
  rw [hl']; exact h1

/-- the top frame is dropped: 'walk = walk[:len(walk)-1]' -/
theorem GMem.popw (h : GMem H n s w sv (.slice (some ⟨gw, 0, none⟩) (ws.length + 1) wcap)) (e : s.wlk = ws ++ [(i, k)]) :
    GMem H n { s with wlk := ws } (w.setCell ⟨H + 9, 0, none⟩ (.slice (some ⟨gw, 0, none⟩) ws.length wcap)) sv (.slice (some ⟨gw, 0, none⟩) ws.length wcap) ∧
      GFr H (SW sv (.slice (some ⟨gw, 0, none⟩) (ws.length + 1) wcap)) w (w.setCell ⟨H + 9, 0, none⟩ (.slice (some ⟨gw, 0, none⟩) ws.length wcap)) := by
  have hw := h.wlk
  rw [e] at hw
  have hl : (ws ++ [(i, k)]).length = ws.length + 1 := by simp
  rw [hl, frs_append] at hw
  refine ⟨⟨h.mem.st9 _, ownsRow_setCell_below h.stk (by simp) _, ownsRow_setCell_below (ownsRow_pop (frs_length ws) hw) (by simp) _⟩, (GFr.refl _ _ _).setCell (by simp) (fun h => by simp at h) _⟩

theorem GMem.popw' {m : Nat} (h : GMem H n s w sv (.slice (some ⟨gw, 0, none⟩) (m + 1) wcap)) (e : s.wlk = ws ++ [(i, k)]) (hm : ws.length = m) :
    GMem H n { s with wlk := ws } (w.setCell ⟨H + 9, 0, none⟩ (.slice (some ⟨gw, 0, none⟩) m wcap)) sv (.slice (some ⟨gw, 0, none⟩) m wcap) ∧
      GFr H (SW sv (.slice (some ⟨gw, 0, none⟩) (m + 1) wcap)) w (w.setCell ⟨H + 9, 0, none⟩ (.slice (some ⟨gw, 0, none⟩) m wcap)) := by
  subst hm; exact h.popw e

end

section
variable {H r : Nat} {d : List (List Int)} {w0 w w1 w' : World} {bx : Obj} {s : TS} {sv wv gv sv' wv' : Value} {ws : List (Nat × Nat)} {i k : Nat}

theorem end_new (HG : GAll H (grOf d) w0 bx s w sv wv gv) (HIn : DfsIn (grOf d) r s) (HP : ∀ v, v ≤ r → v ∈ s.pre) (e : s.wlk = ws ++ [(i, k)]) (hk : k < (row0 d i).length) {j : Nat} (hJ : at0 (row0 d i) k = (j : Int)) (hj : j < d.length) (hnew : j ∉ s.pre)
    (hwd : wordsOf d ≤ 131072) (hm : GMem H d.length (TS.visit { s with wlk := ws ++ [(i, k + 1)] } j) w' sv' wv') (hf : GFr H (SW sv wv) w w') (hsv : sv'.ownBlock = sv.ownBlock ∨ ∃ g, sv'.ownBlock = some g ∧ w.heap.size ≤ g) :
    Rel2 H r d w0 bx (mu (grOf d) s) gv w' := by
  have hnx : (grOf d).nx i k = j := by show (at0 (row0 d i) k).toNat = j; rw [hJ]; simp
  have hk' : k < (grOf d).deg i := hk
  obtain ⟨t1, t2⟩ := HG.inv.scan_new HG.inv2 e hk' (by rw [hnx]; exact hj) (by rw [hnx]; exact hnew)
  have hplt : s.pre.length < (grOf d).n := HG.inv.pre_lt (j := j) hj hnew
  rw [hnx] at t1 t2
  refine ⟨_, sv', wv', mu_new (g := grOf d) (s := s) (i := i) (k := k) (j := j) e rfl (by simp [TS.visit]) hplt (row_le hwd hj), HG.move t1 t2 hm rfl hf hsv, ?_, fun v hv => ?_⟩
  · refine HIn.step ?_
    rw [e, mstep_new hk' (by rw [hnx]; exact hnew), hnx]
    rfl
  · show v ∈ s.pre ++ [j]
    simp [HP v hv]

theorem end_stk (HG : GAll H (grOf d) w0 bx s w sv wv gv) (HIn : DfsIn (grOf d) r s) (HP : ∀ v, v ≤ r → v ∈ s.pre) (e : s.wlk = ws ++ [(i, k)]) (hk : k < (row0 d i).length) {j : Nat} (hJ : at0 (row0 d i) k = (j : Int)) (hst : j ∈ s.stk)
    (hm : GMem H d.length { s with wlk := ws ++ [(i, k + 1)], low := upd s.low i (min (s.low i) (s.ord j)) } w' sv wv) (hf : GFr H (SW sv wv) w w') :
    Rel2 H r d w0 bx (mu (grOf d) s) gv w' := by
  have hnx : (grOf d).nx i k = j := by show (at0 (row0 d i) k).toNat = j; rw [hJ]; simp
  have hk' : k < (grOf d).deg i := hk
  obtain ⟨t1, t2⟩ := HG.inv.scan_stk HG.inv2 e hk' (by rw [hnx]; exact hst)
  rw [hnx] at t1 t2
  refine ⟨{ s with wlk := ws ++ [(i, k + 1)], low := upd s.low i (min (s.low i) (s.ord j)) }, sv, wv, mu_old (g := grOf d) (s := s) (i := i) (k := k) e rfl rfl hk', HG.move t1 t2 hm rfl hf (.inl rfl), ?_, HP⟩
  refine HIn.step ?_
  rw [e, mstep_old hk' (by rw [hnx]; exact HG.inv.stk_pre hst)]

theorem end_done (HG : GAll H (grOf d) w0 bx s w sv wv gv) (HIn : DfsIn (grOf d) r s) (HP : ∀ v, v ≤ r → v ∈ s.pre) (e : s.wlk = ws ++ [(i, k)]) (hk : k < (row0 d i).length) {j : Nat} (hJ : at0 (row0 d i) k = (j : Int)) (hpre : j ∈ s.pre) (hst : j ∉ s.stk)
    (hm : GMem H d.length { s with wlk := ws ++ [(i, k + 1)] } w' sv wv) (hf : GFr H (SW sv wv) w w') :
    Rel2 H r d w0 bx (mu (grOf d) s) gv w' := by
  have hnx : (grOf d).nx i k = j := by show (at0 (row0 d i) k).toNat = j; rw [hJ]; simp
  have hk' : k < (grOf d).deg i := hk
  obtain ⟨t1, t2⟩ := HG.inv.scan_done HG.inv2 e hk' (by rw [hnx]; exact hpre) (by rw [hnx]; exact hst)
  refine ⟨{ s with wlk := ws ++ [(i, k + 1)] }, sv, wv, mu_old (g := grOf d) (s := s) (i := i) (k := k) e rfl rfl hk', HG.move t1 t2 hm rfl hf (.inl rfl), ?_, HP⟩
  refine HIn.step ?_
  rw [e, mstep_old hk' (by rw [hnx]; exact hpre)]

theorem end_keep (HG : GAll H (grOf d) w0 bx s w sv wv gv) (HIn : DfsIn (grOf d) r s) (HP : ∀ v, v ≤ r → v ∈ s.pre) (e : s.wlk = ws ++ [(i, k)]) (hk : ¬ k < (row0 d i).length) (hne : s.low i ≠ s.ord i)
    (hm : GMem H d.length { s with wlk := ws, fin := s.fin ++ [i], low := s.parLow ws i } w' sv wv') (hf : GFr H (SW sv wv) w w') :
    Rel2 H r d w0 bx (mu (grOf d) s) gv w' := by
  have hk' : ¬ k < (grOf d).deg i := hk
  obtain ⟨t1, _⟩ := HG.inv.pop_keep e hk' hne
  have t2 := TInv2.pop_keep HG.inv HG.inv2 e (s.parLow ws i)
  refine ⟨{ s with wlk := ws, fin := s.fin ++ [i], low := s.parLow ws i }, sv, wv', mu_pop (g := grOf d) (s := s) (i := i) (k := k) e rfl rfl, HG.move t1 t2 hm rfl hf (.inl rfl), ?_, HP⟩
  refine HIn.step ?_
  rw [e, mstep_pop hk']
end

end Go.Proofs.Qxb6603026a
