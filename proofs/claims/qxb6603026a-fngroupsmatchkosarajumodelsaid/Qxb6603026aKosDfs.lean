/-
  The recursive depth-first walk of the Kosaraju model: its plain law, against the bare walk's moves. No Go in sight.
-/
import Derived.Test.Qxb6603026aGAll
namespace Go.Proofs.Qxb6603026a

/-- what the two orders always are -/
structure VP (n : Nat) (pre fin : List Nat) : Prop where
  nd : pre.Nodup
  lt : ∀ v ∈ pre, v < n
  sub : ∀ v ∈ fin, v ∈ pre
  len : fin.length ≤ pre.length

theorem VP.start (n : Nat) : VP n [] [] := ⟨List.nodup_nil, by simp, by simp, by simp⟩
theorem VP.pre_le {n : Nat} {pre fin : List Nat} (h : VP n pre fin) : pre.length ≤ n := by
  have := length_le_of_nodup h.nd (m := List.range n) (fun v hv => List.mem_range.2 (h.lt v hv))
  simpa using this

/-- one call of visit at step i, as a whole -/
structure VRun (g : Gr) (i : Nat) (pre fin pre' fin' : List Nat) : Prop where
  tl : ∃ tl, pre' = pre ++ i :: tl
  fm : ∀ v ∈ fin', v ∈ fin ∨ (v ∈ pre' ∧ v ∉ pre)
  run : ∀ ws, ∃ t, MRun g t ⟨pre ++ [i], fin, ws ++ [(i, 0)]⟩ ⟨pre', fin', ws⟩
  len : fin'.length + pre.length = pre'.length + fin.length

/-- inside the call: the first k edges are done -/
structure VIn (g : Gr) (n i : Nat) (pre fin : List Nat) (k : Nat) (pre1 fin1 : List Nat) : Prop where
  vp : VP n pre1 fin1
  new : i ∉ pre
  fsub : ∀ v ∈ fin, v ∈ pre
  tl : ∃ tl, pre1 = pre ++ i :: tl
  fm : ∀ v ∈ fin1, v ∈ fin ∨ (v ∈ pre1 ∧ v ∉ pre ∧ v ≠ i)
  run : ∀ ws, ∃ t, MRun g t ⟨pre ++ [i], fin, ws ++ [(i, 0)]⟩ ⟨pre1, fin1, ws ++ [(i, k)]⟩
  len : fin1.length + pre.length + 1 = pre1.length + fin.length

theorem VIn.start {g : Gr} {n i : Nat} {pre fin : List Nat} (h : VP n pre fin) (hi : i < n) (hnew : i ∉ pre) : VIn g n i pre fin 0 (pre ++ [i]) fin := by
  refine ⟨⟨?_, fun v hv => ?_, fun v hv => by simp [h.sub v hv], by have := h.len; simp; omega⟩, hnew, h.sub, ⟨[], by simp⟩, fun v hv => .inl hv, fun ws => ⟨0, rfl⟩, by simp; omega⟩
  · rw [List.nodup_append]
    refine ⟨h.nd, by simp, fun a ha b hb => ?_⟩
    simp at hb; subst hb; exact fun e => hnew (e ▸ ha)
  · rcases List.mem_append.1 hv with hv | hv
    · exact h.lt v hv
    · simp at hv; subst hv; exact hi
theorem VIn.old {g : Gr} {n i k : Nat} {pre fin pre1 fin1 : List Nat} (h : VIn g n i pre fin k pre1 fin1) (hk : k < g.deg i) (hj : g.nx i k ∈ pre1) : VIn g n i pre fin (k + 1) pre1 fin1 :=
  ⟨h.vp, h.new, h.fsub, h.tl, h.fm, fun ws => by obtain ⟨t, ht⟩ := h.run ws; exact ⟨t + 1, ht.snoc (mstep_old hk hj)⟩, h.len⟩
theorem VIn.call {g : Gr} {n i k : Nat} {pre fin pre1 fin1 pre2 fin2 : List Nat} (h : VIn g n i pre fin k pre1 fin1) (hk : k < g.deg i) (hj : g.nx i k ∉ pre1) (hr : VRun g (g.nx i k) pre1 fin1 pre2 fin2) (hv : VP n pre2 fin2) :
    VIn g n i pre fin (k + 1) pre2 fin2 := by
  obtain ⟨tl, e1⟩ := h.tl
  obtain ⟨tl2, e2⟩ := hr.tl
  have hm : ∀ v, v ∈ pre1 → v ∈ pre2 := fun v hv => by rw [e2]; simp [hv]
  have hi1 : i ∈ pre1 := by rw [e1]; simp
  have hp1 : ∀ v, v ∈ pre → v ∈ pre1 := fun v hv => by rw [e1]; simp [hv]
  refine ⟨hv, h.new, h.fsub, ⟨tl ++ g.nx i k :: tl2, by rw [e2, e1]; simp⟩, fun v hvf => ?_, fun ws => ?_, ?_⟩
  · rcases hr.fm v hvf with hf | ⟨a, b⟩
    · rcases h.fm v hf with hf | ⟨a, b, c⟩
      · exact .inl hf
      · exact .inr ⟨hm v a, b, c⟩
    · exact .inr ⟨a, fun hp => b (hp1 v hp), fun e => b (e ▸ hi1)⟩
  · obtain ⟨t, ht⟩ := h.run ws
    obtain ⟨u, hu⟩ := hr.run (ws ++ [(i, k + 1)])
    exact ⟨_, (ht.snoc (mstep_new hk hj)).trans hu⟩
  · have := h.len; have := hr.len; omega
theorem VIn.not_fin {g : Gr} {n i k : Nat} {pre fin pre1 fin1 : List Nat} (h : VIn g n i pre fin k pre1 fin1) : i ∉ fin1 := by
  intro hi
  rcases h.fm i hi with hf | ⟨_, _, c⟩
  · exact h.new (h.fsub i hf)
  · exact c rfl
theorem VIn.done {g : Gr} {n i : Nat} {pre fin pre1 fin1 : List Nat} (h : VIn g n i pre fin (g.deg i) pre1 fin1) (hl : fin.length ≤ pre.length) : VP n pre1 (fin1 ++ [i]) ∧ VRun g i pre fin pre1 (fin1 ++ [i]) := by
  obtain ⟨tl, e1⟩ := h.tl
  have hi1 : i ∈ pre1 := by rw [e1]; simp
  refine ⟨⟨h.vp.nd, h.vp.lt, fun v hv => ?_, by have := h.len; simp; omega⟩, ⟨tl, e1⟩, fun v hv => ?_, fun ws => ?_, by have := h.len; simp; omega⟩
  · rcases List.mem_append.1 hv with hv | hv
    · exact h.vp.sub v hv
    · simp at hv; subst hv; exact hi1
  · rcases List.mem_append.1 hv with hv | hv
    · rcases h.fm v hv with hf | ⟨a, b, c⟩
      · exact .inl hf
      · exact .inr ⟨a, b⟩
    · simp at hv; subst hv; exact .inr ⟨hi1, h.new⟩
  · obtain ⟨t, ht⟩ := h.run ws
    exact ⟨t + 1, ht.snoc (mstep_pop (Nat.lt_irrefl _))⟩

/-- the outer loop -/
theorem VRun.to {g : Gr} {r : Nat} {pre fin pre' fin' : List Nat} (h : DfsTo g r pre fin) (hr : r ∉ pre) (hv : VRun g r pre fin pre' fin') : DfsTo g (r + 1) pre' fin' := by
  obtain ⟨t, ht⟩ := hv.run []
  exact ⟨pre, fin, h, .inr ⟨hr, t, ht⟩⟩

end Go.Proofs.Qxb6603026a
