/-
  The whole state of graph.groups in memory: Tarjan's state, the groups so far, the graph's box. No program is named here.
-/
import Derived.Test.Qxb6603026aGMem
import Derived.Test.Qxb6603026aDfs
namespace Go.Proofs.Qxb6603026a
open Go.RowKit
set_option linter.unusedSimpArgs false

/-- the graph that a list of dependency lists draws -/
def grOf (d : List (List Int)) : Gr := ⟨d.length, fun v => (row0 d v).length, fun v k => (at0 (row0 d v) k).toNat⟩

/-- a finished group: a slice of its own, not in the stack's block -/
def GroupVal (H : Nat) (w : World) (sv u : Value) (c : List Nat) : Prop :=
  ∃ gb cap, u = .slice (some ⟨gb, 0, none⟩) c.length cap ∧ IRow w gb cap (ns c) ∧ H + 10 ≤ gb ∧ some gb ≠ sv.ownBlock

def GrMem (H : Nat) (w : World) (sv gv : Value) (gs : List (List Nat)) : Prop :=
  ∃ us : List Value, w.ownsRow (H + 10) 26 1 gv gs.length us ∧ ∀ (j : Nat) (c : List Nat), gs[j]? = some c → ∃ u, us[j]? = some u ∧ GroupVal H w sv u c

theorem ownBlock_row {w : World} {base : Nat} {e : TypeId} {size g n cap : Nat} {xs ys : List Value} {v : Value} {m : Nat} {e' : TypeId} {size' : Nat} (h : Row w e size g n cap xs) (h' : w.ownsRow base e' size' v m ys) (he : e ≠ e') : some g ≠ v.ownBlock := by
  rcases ownBlock_ne h h' he with hh | hh
  · cases hh
  · exact hh

theorem GrMem.step {H : Nat} {w w' : World} {sv wv gv sv' : Value} {gs : List (List Nat)} {m : Nat} {ys : List Value} {m' : Nat} {ys' : List Value} (h : GrMem H w sv gv gs)
    (hs : w.ownsRow (H + 10) 3 1 sv m' ys') (hw : w.ownsRow (H + 10) 67 2 wv m ys)
    (hf : GFr H (SW sv wv) w w') (hsv : sv'.ownBlock = sv.ownBlock ∨ ∃ g, sv'.ownBlock = some g ∧ w.heap.size ≤ g) : GrMem H w' sv' gv gs := by
  obtain ⟨us, h1, h2⟩ := h
  refine ⟨us, ?_, fun j c hc => ?_⟩
  · rcases h1.2 with ⟨rfl, h0⟩ | ⟨g, cap, cur, rfl, hb, hg, rest⟩
    · exact ⟨h1.1, .inl ⟨rfl, h0⟩⟩
    · refine ⟨h1.1, .inr ⟨g, cap, cur, rfl, hb, ?_, rest⟩⟩
      have hr : Row w 26 1 g gs.length cap us := Row.of_owns h1
      rw [hf.own g hb hr.lt (fun hx => ?_)]
      · exact hg
      · rcases hx with hx | hx
        · exact ownBlock_row hr hs (by decide) hx
        · exact ownBlock_row hr hw (by decide) hx
  · obtain ⟨u, hu, gb, cap, rfl, hrow, hb, hne⟩ := h2 j c hc
    have hlt := hrow.lt
    refine ⟨_, hu, gb, cap, rfl, hrow.congr (hf.own gb hb hlt (fun hx => ?_)), hb, ?_⟩
    · rcases hx with hx | hx
      · exact hne hx
      · exact ownBlock_row hrow hw (by decide) hx
    · rcases hsv with e | ⟨g, e, hg⟩
      · rw [e]; exact hne
      · rw [e]; intro hh; simp at hh; omega

theorem filterMap_last_length {l : List (List Nat)} (h : ∀ c ∈ l, c ≠ []) : (l.filterMap List.getLast?).length = l.length := by
  induction l with
  | nil => rfl
  | cons c l ih =>
    have hc : c ≠ [] := h c (by simp)
    rw [List.filterMap_cons]
    have : c.getLast? = some (c.getLast hc) := List.getLast?_eq_some_getLast hc
    rw [this]
    simp only [List.length_cons]
    rw [ih (fun c' hc' => h c' (by simp [hc']))]

/-- everything -/
structure GAll (H : Nat) (g : Gr) (w0 : World) (bx : Obj) (s : TS) (w : World) (sv wv gv : Value) : Prop where
  inv : TInv g s
  inv2 : TInv2 s
  mem : GMem H g.n s w sv wv
  grs : GrMem H w sv gv s.grs
  box : w.heap[H]? = some bx
  blw : Below H w0 w

theorem GAll.move {H : Nat} {g : Gr} {w0 : World} {bx : Obj} {s s' : TS} {w w' : World} {sv wv gv sv' wv' : Value} (h : GAll H g w0 bx s w sv wv gv)
    (hi : TInv g s') (hi2 : TInv2 s') (hm : GMem H g.n s' w' sv' wv') (hgr : s'.grs = s.grs) (hf : GFr H (SW sv wv) w w') (hsv : sv'.ownBlock = sv.ownBlock ∨ ∃ b, sv'.ownBlock = some b ∧ w.heap.size ≤ b) :
    GAll H g w0 bx s' w' sv' wv' gv :=
  ⟨hi, hi2, hm, by rw [hgr]; exact h.grs.step h.mem.stk h.mem.wlk hf hsv, by rw [hf.old H (Nat.le_refl _)]; exact h.box, h.blw.trans (hf.below.mono (by omega))⟩

/-- lengths -/
theorem TInv.stk_le {g : Gr} {s : TS} (h : TInv g s) : s.stk.length ≤ s.pre.length := by
  have hn := h.stk_nodup
  have hsub : ∀ v ∈ s.stk, v ∈ s.pre := fun v hv => h.stk_pre hv
  generalize s.stk = l at hn hsub
  generalize s.pre = m at hsub
  induction l generalizing m with
  | nil => simp
  | cons a l ih =>
    rw [List.nodup_cons] at hn
    have ha : a ∈ m := hsub a (by simp)
    have := ih hn.2 (m.erase a) (fun v hv => by
      have hne : v ≠ a := fun e => hn.1 (e ▸ hv)
      exact (List.mem_erase_of_ne hne).2 (hsub v (by simp [hv])))
    rw [List.length_erase_of_mem ha] at this
    have hp : 0 < m.length := List.length_pos_of_mem ha
    simp only [List.length_cons]
    omega

/-- a list without repetition is no longer than one that holds all of it -/
theorem length_le_of_nodup {l m : List Nat} (hn : l.Nodup) (hsub : ∀ v ∈ l, v ∈ m) : l.length ≤ m.length := by
  induction l generalizing m with
  | nil => simp
  | cons a l ih =>
    rw [List.nodup_cons] at hn
    have ha : a ∈ m := hsub a (by simp)
    have := ih hn.2 (m := m.erase a) (fun v hv => by
      have hne : v ≠ a := fun e => hn.1 (e ▸ hv)
      exact (List.mem_erase_of_ne hne).2 (hsub v (by simp [hv])))
    rw [List.length_erase_of_mem ha] at this
    have hp : 0 < m.length := List.length_pos_of_mem ha
    simp only [List.length_cons]
    omega

theorem TInv.pre_le {g : Gr} {s : TS} (h : TInv g s) : s.pre.length ≤ g.n := by
  have := length_le_of_nodup h.nd (m := List.range g.n) (fun v hv => List.mem_range.2 (h.lt v hv))
  simpa using this
theorem TInv.pre_lt {g : Gr} {s : TS} (h : TInv g s) {j : Nat} (hj : j < g.n) (hnew : j ∉ s.pre) : s.pre.length < g.n := by
  have hn : (j :: s.pre).Nodup := List.nodup_cons.2 ⟨hnew, h.nd⟩
  have := length_le_of_nodup hn (m := List.range g.n) (fun v hv => by
    rcases List.mem_cons.1 hv with rfl | hv
    · exact List.mem_range.2 hj
    · exact List.mem_range.2 (h.lt v hv))
  simp at this
  omega
theorem TInv.wlk_le {g : Gr} {s : TS} (h : TInv g s) : s.wlk.length ≤ s.pre.length := by
  have hn : (s.wlk.map (·.1)).Nodup := by
    unfold List.Nodup
    rw [List.pairwise_map]
    exact h.wsrt.imp (fun hab e => by rw [e] at hab; omega)
  have := length_le_of_nodup hn (m := s.pre) (fun v hv => by
    obtain ⟨q, hq, rfl⟩ := List.mem_map.1 hv
    exact h.stk_pre (h.wst q hq).1)
  simpa using this

theorem GAll.cm {H : Nat} {d : List (List Int)} {w0 : World} {bx : Obj} {s : TS} {w : World} {sv wv gv : Value} (h : GAll H (grOf d) w0 bx s w sv wv gv) :
    CMem H d.length s.ord s.low (fun v => decide (v ∈ s.stk)) s.pre.length sv wv w := h.mem.mem
theorem GAll.gm {H : Nat} {d : List (List Int)} {w0 : World} {bx : Obj} {s : TS} {w : World} {sv wv gv : Value} (h : GAll H (grOf d) w0 bx s w sv wv gv) : GMem H d.length s w sv wv := h.mem
theorem CMem.ordAt {H n : Nat} {o l : Nat → Nat} {b : Nat → Bool} {r : Nat} {sv wv : Value} {w : World} (h : CMem H n o l b r sv wv w) {i : Nat} (hi : i < n) : w.cell? ⟨H + 1, i, none⟩ = some (.int .i64 (o i : Int)) := by
  have := h.ord.cell (j := i) (by rw [fl_length]; exact hi)
  rwa [at0_fl _ hi] at this
theorem CMem.lowAt {H n : Nat} {o l : Nat → Nat} {b : Nat → Bool} {r : Nat} {sv wv : Value} {w : World} (h : CMem H n o l b r sv wv w) {i : Nat} (hi : i < n) : w.cell? ⟨H + 3, i, none⟩ = some (.int .i64 (l i : Int)) := by
  have := h.low.cell (j := i) (by rw [fl_length]; exact hi)
  rwa [at0_fl _ hi] at this
theorem CMem.onsAt {H n : Nat} {o l : Nat → Nat} {b : Nat → Bool} {r : Nat} {sv wv : Value} {w : World} (h : CMem H n o l b r sv wv w) {i : Nat} (hi : i < n) : w.cell? ⟨H + 5, i, none⟩ = some (.bool (b i)) := by
  have := h.ons.cell (j := i) (by omega)
  rwa [bl_get _ hi] at this

theorem TInv.grs_le {g : Gr} {s : TS} (h : TInv g s) (h2 : TInv2 s) : s.grs.length ≤ g.n := by
  have h3 := filterMap_last_length (l := s.grs) (fun c hc => (h.gnd c hc).2)
  rw [h2.hds] at h3
  have h4 := List.length_filter_le (fun v => decide (v ∈ s.grs.filterMap List.getLast?)) s.fin
  have h5 := length_le_of_nodup h2.fnd (m := s.pre) (fun v hv => ((h2.fmem v).1 hv).1)
  have h6 := h.pre_le
  omega

/-! ### The measure -/
def fsum (g : Gr) : List (Nat × Nat) → Nat
  | [] => 0
  | q :: l => (g.deg q.1 - q.2 + 1) + fsum g l
theorem fsum_append (g : Gr) (l m : List (Nat × Nat)) : fsum g (l ++ m) = fsum g l + fsum g m := by
  induction l with
  | nil => simp [fsum]
  | cons q l ih => simp only [List.cons_append, fsum, ih]; omega
/-- how many rounds at most are to come -/
def mu (g : Gr) (s : TS) : Nat := (g.n - s.pre.length) * 131074 + fsum g s.wlk

theorem mu_new {g : Gr} {s s' : TS} {ws : List (Nat × Nat)} {i k j : Nat} (e : s.wlk = ws ++ [(i, k)]) (e' : s'.wlk = ws ++ [(i, k + 1)] ++ [(j, 0)]) (hp : s'.pre.length = s.pre.length + 1) (hlt : s.pre.length < g.n) (hj : g.deg j ≤ 131072) : mu g s' < mu g s := by
  unfold mu
  rw [e, e', hp, fsum_append, fsum_append, fsum_append]
  simp only [fsum]
  have h1 : g.n - s.pre.length = (g.n - (s.pre.length + 1)) + 1 := by omega
  rw [h1, Nat.add_mul]
  omega
theorem mu_old {g : Gr} {s s' : TS} {ws : List (Nat × Nat)} {i k : Nat} (e : s.wlk = ws ++ [(i, k)]) (e' : s'.wlk = ws ++ [(i, k + 1)]) (hp : s'.pre = s.pre) (hk : k < g.deg i) : mu g s' < mu g s := by
  unfold mu
  rw [e, e', hp, fsum_append, fsum_append]
  simp only [fsum]
  omega
theorem mu_pop {g : Gr} {s s' : TS} {ws : List (Nat × Nat)} {i k : Nat} (e : s.wlk = ws ++ [(i, k)]) (e' : s'.wlk = ws) (hp : s'.pre = s.pre) : mu g s' < mu g s := by
  unfold mu
  rw [e, e', hp, fsum_append]
  simp only [fsum]
  omega

/-! ### The start -/
theorem heap_alloc_if (w : World) (o : Obj) (k : Nat) : (w.alloc o).heap[k]? = if k = w.heap.size then some o else w.heap[k]? := by
  show (w.heap.push o)[k]? = _
  rw [Array.getElem?_push]

theorem size_alloc_eq (w : World) (o : Obj) : (w.alloc o).heap.size = w.heap.size + 1 := by simp

theorem madeB_row (w : World) (n : Nat) (hn : n ≤ maxLen) : Row (w.alloc (.cells (madeCells #[.bool false] n) 4)) 4 1 w.heap.size n n (bl n fun _ => false) := by
  have := World.ownsRow_lit (base := 0) (e := 4) (size := 1) w (madeCells #[.bool false] n) n (Nat.zero_le _) hn (by rw [size_madeCells]; omega)
  rw [toList_madeCells_one] at this
  have e : List.replicate n (Value.bool false) = bl n fun _ => false := by
    apply List.ext_getElem?
    intro j
    by_cases hj : j < n <;> simp [bl, hj]
  rw [e] at this
  exact this

theorem groups_start (w : World) (g : Gr) (bx : Obj) (hn : g.n ≤ 65536) :
    GAll w.heap.size g w bx ⟨[], [], fun _ => 0, [], [], []⟩
      ((((((((((w.alloc bx).alloc (.cells (madeCells #[.int .i64 0] g.n) 3)).alloc (.cells #[.slice (some ⟨w.heap.size + 1, 0, none⟩) g.n g.n] 26)).alloc (.cells (madeCells #[.int .i64 0] g.n) 3)).alloc
        (.cells #[.slice (some ⟨w.heap.size + 3, 0, none⟩) g.n g.n] 26)).alloc (.cells (madeCells #[.bool false] g.n) 4)).alloc (.cells #[.slice (some ⟨w.heap.size + 5, 0, none⟩) g.n g.n] 57)).alloc
        (.cells #[.slice none 0 0] 26)).alloc (.cells #[.int .i64 0] 3)).alloc (.cells #[.slice none 0 0] 65))
      (.slice none 0 0) (.slice none 0 0) (.slice none 0 0) := by
  have hm : g.n ≤ maxLen := by unfold maxLen; omega
  have e0 : fl g.n (fun _ => 0) = List.replicate g.n 0 := by
    apply List.ext_getElem?
    intro j
    by_cases hj : j < g.n <;> simp [fl, hj]
  refine ⟨inv_start g _, inv2_start _, ⟨⟨?_, ?_, ?_, ?_, ?_, ?_, ?_, ?_, ?_⟩, World.ownsRow_nil _ _ _ _, World.ownsRow_nil _ _ _ _⟩, ⟨[], World.ownsRow_nil _ _ _ _, fun j c hc => by simp at hc⟩, ?_, ?_⟩
  · have h1 := IRow.made (w.alloc bx) g.n hm
    rw [show (w.alloc bx).heap.size = w.heap.size + 1 from by simp] at h1
    have e : fl g.n (TS.ord ⟨[], [], fun _ => 0, [], [], []⟩) = List.replicate g.n 0 := by rw [← e0]; exact fl_congr (fun i _ => by simp [TS.ord, ordOf])
    rw [e]
    exact (((((((h1.alloc _).alloc _).alloc _).alloc _).alloc _).alloc _).alloc _).alloc _
  · have h1 := IRow.made (((w.alloc bx).alloc (.cells (madeCells #[.int .i64 0] g.n) 3)).alloc (.cells #[.slice (some ⟨w.heap.size + 1, 0, none⟩) g.n g.n] 26)) g.n hm
    rw [show (((w.alloc bx).alloc (.cells (madeCells #[.int .i64 0] g.n) 3)).alloc (.cells #[.slice (some ⟨w.heap.size + 1, 0, none⟩) g.n g.n] 26)).heap.size = w.heap.size + 3 from by simp] at h1
    rw [e0]
    exact (((((h1.alloc _).alloc _).alloc _).alloc _).alloc _).alloc _
  · have h1 := madeB_row (((((w.alloc bx).alloc (.cells (madeCells #[.int .i64 0] g.n) 3)).alloc (.cells #[.slice (some ⟨w.heap.size + 1, 0, none⟩) g.n g.n] 26)).alloc (.cells (madeCells #[.int .i64 0] g.n) 3)).alloc (.cells #[.slice (some ⟨w.heap.size + 3, 0, none⟩) g.n g.n] 26)) g.n hm
    rw [show (((((w.alloc bx).alloc (.cells (madeCells #[.int .i64 0] g.n) 3)).alloc (.cells #[.slice (some ⟨w.heap.size + 1, 0, none⟩) g.n g.n] 26)).alloc (.cells (madeCells #[.int .i64 0] g.n) 3)).alloc (.cells #[.slice (some ⟨w.heap.size + 3, 0, none⟩) g.n g.n] 26)).heap.size = w.heap.size + 5 from by simp] at h1
    have e : (bl g.n fun v => decide (v ∈ ([] : List Nat))) = bl g.n fun _ => false := bl_congr (fun i _ => by simp)
    show Row _ 4 1 _ _ _ (bl g.n fun v => decide (v ∈ ([] : List Nat)))
    rw [e]
    exact (((h1.alloc _).alloc _).alloc _).alloc _
  · simp only [heap_alloc_if, size_alloc_eq, Nat.add_assoc, Nat.reduceAdd, Nat.add_left_cancel_iff, Nat.reduceEqDiff, if_false, if_true]
  · simp only [heap_alloc_if, size_alloc_eq, Nat.add_assoc, Nat.reduceAdd, Nat.add_left_cancel_iff, Nat.reduceEqDiff, if_false, if_true]
  · simp only [heap_alloc_if, size_alloc_eq, Nat.add_assoc, Nat.reduceAdd, Nat.add_left_cancel_iff, Nat.reduceEqDiff, if_false, if_true]
  · simp only [heap_alloc_if, size_alloc_eq, Nat.add_assoc, Nat.reduceAdd, Nat.add_left_cancel_iff, Nat.reduceEqDiff, if_false, if_true]
  · simp only [heap_alloc_if, size_alloc_eq, Nat.add_assoc, Nat.reduceAdd, Nat.add_left_cancel_iff, Nat.reduceEqDiff, if_false, if_true]; rfl
  · simp only [heap_alloc_if, size_alloc_eq, Nat.add_assoc, Nat.reduceAdd, Nat.add_left_cancel_iff, Nat.reduceEqDiff, if_false, if_true]
  · simp only [heap_alloc_if, size_alloc_eq, Nat.add_assoc, Nat.reduceAdd, Nat.add_left_cancel_iff, Nat.reduceEqDiff, if_false, if_true]; simp
  · refine ⟨rfl, rfl, rfl, ?_, fun k hk => ?_⟩
    · simp only [size_alloc_eq]; omega
    · simp only [heap_alloc_if, size_alloc_eq]
      repeat rw [if_neg (by omega)]

end Go.Proofs.Qxb6603026a
