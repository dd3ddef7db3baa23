/-
  The plain law of the Kosaraju model. No Go in sight.
-/
import Derived.Test.Qxb6603026aBfsPure
namespace Go.Proofs.Qxb6603026a

/-! ### orders -/
theorem ordOf_nd0 {l : List Nat} (hn : l.Nodup) {k : Nat} (hk : k < l.length) : ordOf l (nd0 l k) = k + 1 := by
  have hm := nd0_mem hk
  have e : nd0 l k = l[k] := by simp [nd0, hk]
  unfold ordOf
  rw [if_pos hm, e]
  have := hn.idxOf_getElem k hk
  omega
theorem nd0_ordOf {l : List Nat} {v : Nat} (hv : v ∈ l) : ordOf l v - 1 < l.length ∧ nd0 l (ordOf l v - 1) = v := by
  unfold ordOf
  rw [if_pos hv]
  have h1 := List.idxOf_lt_length_of_mem hv
  refine ⟨by simpa using h1, ?_⟩
  simp [nd0, h1]
theorem ord_pairwise {l : List Nat} (hn : l.Nodup) : l.Pairwise (fun a b => ordOf l a < ordOf l b) := by
  rw [List.pairwise_iff_getElem]
  intro i j hi hj hij
  have e1 := ordOf_nd0 hn hi
  have e2 := ordOf_nd0 hn hj
  simp only [nd0, List.getD_eq_getElem?_getD, List.getElem?_eq_getElem hi, List.getElem?_eq_getElem hj, Option.getD_some] at e1 e2
  omega
theorem len_of_mem {l : List Nat} {n : Nat} (hn : l.Nodup) (hm : ∀ v, v ∈ l ↔ v < n) : l.length = n := by
  have := length_eq_of hn (List.nodup_range (n := n)) (fun x hx => List.mem_range.2 ((hm x).1 hx)) (fun x hx => (hm x).2 (List.mem_range.1 hx))
  simpa using this
theorem sorted_eq (f : Nat → Nat) : ∀ {l m : List Nat}, l.Pairwise (fun a b => f b < f a) → m.Pairwise (fun a b => f b < f a) → (∀ x, x ∈ l ↔ x ∈ m) → l = m
  | [], [], _, _, _ => rfl
  | [], b :: m, _, _, h => by have := (h b).2 (by simp); cases this
  | a :: l, [], _, _, h => by have := (h a).1 (by simp); cases this
  | a :: l, b :: m, hl, hm, h => by
    rw [List.pairwise_cons] at hl hm
    have hab : a = b := by
      have h1 := (h a).1 (by simp)
      have h2 := (h b).2 (by simp)
      rcases List.mem_cons.1 h1 with e | h1
      · exact e
      · rcases List.mem_cons.1 h2 with e | h2
        · exact e.symm
        · have := hl.1 b h2
          have := hm.1 a h1
          omega
    subst hab
    have := sorted_eq f hl.2 hm.2 (fun x => by
      constructor
      · intro hx
        rcases List.mem_cons.1 ((h x).1 (by simp [hx])) with e | hx'
        · subst e; have := hl.1 x hx; omega
        · exact hx'
      · intro hx
        rcases List.mem_cons.1 ((h x).2 (by simp [hx])) with e | hx'
        · subst e; have := hm.1 x hx; omega
        · exact hx')
    rw [this]

/-! ### what graph.groups hands back, beside the walk's orders -/
structure KS (g : Gr) (gs : List (List Nat)) (pre fin : List Nat) : Prop where
  scc : Scc g gs
  pnd : pre.Nodup
  pmem : ∀ v, v ∈ pre ↔ v < g.n
  fnd : fin.Nodup
  fmem : ∀ v, v ∈ fin ↔ v < g.n
  gsrt : ∀ c ∈ gs, c.Pairwise (fun a b => ordOf pre b < ordOf pre a)
  hds : gs.filterMap List.getLast? = fin.filter (fun v => decide (v ∈ gs.filterMap List.getLast?))
  hmx : ∀ c ∈ gs, ∀ h, c.getLast? = some h → ∀ v ∈ c, ordOf fin v ≤ ordOf fin h

theorem ks_of {g : Gr} {s : TS} (h : TInv g s) (h2 : TInv2 s) (hw : s.wlk = []) (hp : ∀ v, v < g.n → v ∈ s.pre) : KS g s.grs s.pre s.fin where
  scc := scc_of h hw hp
  pnd := h.nd
  pmem v := ⟨h.lt v, hp v⟩
  fnd := h2.fnd
  fmem v := by rw [h2.fmem, hw]; simp; exact ⟨h.lt v, hp v⟩
  gsrt := h2.gsrt
  hds := h2.hds
  hmx c hc h' hl v hv := (h2.hmx c hc h' hl v hv).2

/-- the head of group i: its last -/
def hdOf (gs : List (List Nat)) (i : Nat) : Nat := (gs[i]?.bind List.getLast?).getD 0

theorem heads_of : ∀ (l : List (List Nat)), (∀ c ∈ l, c ≠ []) → l.filterMap List.getLast? = l.map (fun c => c.getLast?.getD 0)
  | [], _ => rfl
  | c :: l, h => by
    have hne := h c (by simp)
    rw [List.filterMap_cons, List.getLast?_eq_some_getLast hne, List.map_cons, List.getLast?_eq_some_getLast hne, heads_of l (fun c hc => h c (by simp [hc]))]
    rfl

namespace KS
variable {g : Gr} {gs : List (List Nat)} {pre fin : List Nat}

theorem plen (h : KS g gs pre fin) : pre.length = g.n := len_of_mem h.pnd h.pmem
theorem flen (h : KS g gs pre fin) : fin.length = g.n := len_of_mem h.fnd h.fmem
theorem hd (h : KS g gs pre fin) {i : Nat} {c : List Nat} (hc : gs[i]? = some c) : c.getLast? = some (hdOf gs i) ∧ hdOf gs i ∈ c := by
  have hne := h.scc.ne i c hc
  have e : c.getLast? = some (c.getLast hne) := List.getLast?_eq_some_getLast hne
  have e2 : hdOf gs i = c.getLast hne := by simp [hdOf, hc, e]
  rw [e2]
  exact ⟨e, List.getLast_mem hne⟩
theorem hd_whr (h : KS g gs pre fin) {i : Nat} (hi : i < gs.length) : whr gs (hdOf gs i) = i :=
  h.scc.whr_eq (List.getElem?_eq_getElem hi) (h.hd (List.getElem?_eq_getElem hi)).2
theorem heads (h : KS g gs pre fin) : gs.filterMap List.getLast? = gs.map (fun c => c.getLast?.getD 0) := by
  apply heads_of
  intro c hc
  obtain ⟨i, hi, rfl⟩ := List.mem_iff_getElem.1 hc
  exact h.scc.ne i _ (List.getElem?_eq_getElem hi)
theorem hd_ord (h : KS g gs pre fin) {i j : Nat} (hij : i < j) (hj : j < gs.length) : ordOf fin (hdOf gs i) < ordOf fin (hdOf gs j) := by
  have hp : (gs.filterMap List.getLast?).Pairwise (fun a b => ordOf fin a < ordOf fin b) := by
    rw [h.hds]; exact (ord_pairwise h.fnd).filter _
  rw [h.heads, List.pairwise_iff_getElem] at hp
  have := hp i j (by simp; omega) (by simpa using hj) hij
  simp only [List.getElem_map] at this
  have e : ∀ k (hk : k < gs.length), hdOf gs k = (gs[k]).getLast?.getD 0 := fun k hk => by simp [hdOf, hk]
  rw [e i (by omega), e j hj]
  exact this
theorem le_hd (h : KS g gs pre fin) {v : Nat} (hv : v < g.n) : ordOf fin v ≤ ordOf fin (hdOf gs (whr gs v)) := by
  obtain ⟨c, hc, hm⟩ := h.scc.whr_mem hv
  exact h.hmx c (List.mem_of_getElem? hc) _ (h.hd hc).1 v hm
theorem hd_lt (h : KS g gs pre fin) {i : Nat} (hi : i < gs.length) : hdOf gs i < g.n :=
  h.scc.lt i _ (List.getElem?_eq_getElem hi) _ (h.hd (List.getElem?_eq_getElem hi)).2
end KS

/-- the groups from m on are just those whose heads finish after the first P steps -/
def MOk (gs : List (List Nat)) (fin : List Nat) (P m : Nat) : Prop := m ≤ gs.length ∧ ∀ i, i < gs.length → (m ≤ i ↔ P < ordOf fin (hdOf gs i))

section
variable {g : Gr} {gs : List (List Nat)} {pre fin : List Nat}

theorem MOk.top (h : KS g gs pre fin) : MOk gs fin g.n gs.length := ⟨Nat.le_refl _, fun i hi => by
  have := ordOf_le (p := fin) (v := hdOf gs i)
  have := h.flen
  omega⟩
theorem MOk.top_eq (h : KS g gs pre fin) {m : Nat} (hm : MOk gs fin g.n m) : m = gs.length := by
  refine Nat.le_antisymm hm.1 (Nat.le_of_not_lt fun hlt => ?_)
  have := (hm.2 m hlt).1 (Nat.le_refl _)
  have := ordOf_le (p := fin) (v := hdOf gs m)
  have := h.flen
  omega
theorem MOk.zero (h : KS g gs pre fin) : MOk gs fin 0 0 := ⟨Nat.zero_le _, fun i hi => by
  have := ordOf_pos.2 ((h.fmem _).2 (h.hd_lt hi))
  omega⟩
theorem MOk.zero_eq (h : KS g gs pre fin) {m : Nat} (hm : MOk gs fin 0 m) : m = 0 := by
  refine Nat.eq_zero_of_not_pos fun hp => ?_
  have := hm.1
  have := (hm.2 0 (by omega)).2 (ordOf_pos.2 ((h.fmem _).2 (h.hd_lt (by omega))))
  omega
theorem KS.at (h : KS g gs pre fin) {P : Nat} (hP : P < g.n) : nd0 fin P < g.n ∧ ordOf fin (nd0 fin P) = P + 1 := by
  have hl := h.flen
  exact ⟨(h.fmem _).1 (nd0_mem (by omega)), ordOf_nd0 h.fnd (by omega)⟩
theorem KS.hd_at (h : KS g gs pre fin) {P i : Nat} (hP : P < g.n) (hi : i < gs.length) (e : ordOf fin (hdOf gs i) = P + 1) : nd0 fin P = hdOf gs i ∧ whr gs (nd0 fin P) = i := by
  have hv := h.at hP
  have : nd0 fin P = hdOf gs i := ordOf_inj ((h.fmem _).2 hv.1) (by rw [hv.2, e])
  exact ⟨this, by rw [this]; exact h.hd_whr hi⟩
theorem MOk.skip (h : KS g gs pre fin) {P m : Nat} (hP : P < g.n) (hm : MOk gs fin (P + 1) m) (hv : m ≤ whr gs (nd0 fin P)) : MOk gs fin P m := by
  refine ⟨hm.1, fun i hi => ?_⟩
  have h1 := hm.2 i hi
  by_cases e : ordOf fin (hdOf gs i) = P + 1
  · have := (h.hd_at hP hi e).2
    omega
  · omega
theorem MOk.take (h : KS g gs pre fin) {P m : Nat} (hP : P < g.n) (hm : MOk gs fin (P + 1) m) (hv : ¬ m ≤ whr gs (nd0 fin P)) : m = whr gs (nd0 fin P) + 1 ∧ MOk gs fin P (whr gs (nd0 fin P)) := by
  have hat := h.at hP
  have hi := h.scc.whr_lt hat.1
  have h1 := hm.2 _ hi
  have h2 := h.le_hd hat.1
  have h3 := hm.1
  have eo : ordOf fin (hdOf gs (whr gs (nd0 fin P))) = P + 1 := by omega
  refine ⟨?_, by omega, fun i hi' => ?_⟩
  · rcases Nat.lt_or_ge (whr gs (nd0 fin P) + 1) gs.length with hlt | hge
    · have := h.hd_ord (i := whr gs (nd0 fin P)) (j := whr gs (nd0 fin P) + 1) (by omega) hlt
      have := (hm.2 _ hlt).2 (by omega)
      omega
    · omega
  · rcases Nat.lt_trichotomy i (whr gs (nd0 fin P)) with hlt | he | hgt
    · have := h.hd_ord hlt hi
      omega
    · rw [he]; omega
    · have := h.hd_ord hgt hi'
      omega
theorem MOk.up_skip (h : KS g gs pre fin) {P m : Nat} (hP : P < g.n) (hm : MOk gs fin P m) (hv : hdOf gs (whr gs (nd0 fin P)) ≠ nd0 fin P) : MOk gs fin (P + 1) m := by
  refine ⟨hm.1, fun i hi => ?_⟩
  have h1 := hm.2 i hi
  have : ordOf fin (hdOf gs i) ≠ P + 1 := fun e => by
    have := h.hd_at hP hi e
    rw [this.2] at hv
    exact hv this.1.symm
  omega
theorem MOk.up_take (h : KS g gs pre fin) {P m : Nat} (hP : P < g.n) (hm : MOk gs fin P m) (hv : hdOf gs (whr gs (nd0 fin P)) = nd0 fin P) : m = whr gs (nd0 fin P) ∧ m < gs.length ∧ MOk gs fin (P + 1) (m + 1) := by
  have hat := h.at hP
  have hi := h.scc.whr_lt hat.1
  have h1 := hm.2 _ hi
  rw [hv, hat.2] at h1
  have hmi : m = whr gs (nd0 fin P) := by
    refine Nat.le_antisymm (by omega) (Nat.le_of_not_lt fun hlt => ?_)
    have a := h.hd_ord hlt hi
    have b := hm.2 m (by omega)
    rw [hv, hat.2] at a
    omega
  refine ⟨hmi, by omega, by omega, fun i hi' => ?_⟩
  have h2 := hm.2 i hi'
  rcases Nat.lt_trichotomy i m with hlt | he | hgt
  · omega
  · rw [he, hmi, hv, hat.2]; omega
  · have a := h.hd_ord (i := m) hgt hi'
    rw [hmi, hv, hat.2] at a
    omega
end

/-! ### the second pass -/
/-- a function on 0 .. n-1 as a list of whole numbers -/
def fz (n : Nat) (f : Nat → Int) : List Int := (List.range n).map f
theorem fz_length (n : Nat) (f : Nat → Int) : (fz n f).length = n := by simp [fz]
theorem at0_fz {n i : Nat} (f : Nat → Int) (h : i < n) : at0 (fz n f) i = f i := by simp [at0, fz, h]
theorem fz_congr {n : Nat} {f g : Nat → Int} (h : ∀ i, i < n → f i = g i) : fz n f = fz n g := by
  unfold fz
  exact List.map_congr_left (fun i hi => h i (List.mem_range.1 hi))
theorem fz_set {n i : Nat} {x : Int} {f g : Nat → Int} (hi : g i = x) (ho : ∀ j, j ≠ i → g j = f j) : (fz n f).set i x = fz n g := by
  apply List.ext_getElem?
  intro j
  by_cases hj : j < n
  · by_cases e : j = i
    · subst e; simp [fz, hj, hi]
    · simp [fz, hj, Ne.symm e, ho j e]
  · simp [fz, hj]

/-- the components: group i is component (number of groups - 1 - i) -/
def Kf (gs : List (List Nat)) (v : Nat) : Nat := gs.length - 1 - whr gs v
/-- .. those of the groups from m on are placed -/
def compF (gs : List (List Nat)) (m v : Nat) : Int := if m ≤ whr gs v then ((Kf gs v : Nat) : Int) else -1
/-- .. and the queue's -/
def compQ (gs : List (List Nat)) (m : Nat) (q : List Nat) (v : Nat) : Int := if v ∈ q then ((gs.length - m : Nat) : Int) else compF gs m v

theorem compF_neg {gs : List (List Nat)} {m v : Nat} : compF gs m v < 0 ↔ ¬ m ≤ whr gs v := by
  unfold compF; split <;> simp_all
theorem comp_first {gs : List (List Nat)} {n m v : Nat} {x : Int} (hx : x = ((gs.length - m : Nat) : Int)) : (fz n (compF gs m)).set v x = fz n (compQ gs m [v]) :=
  fz_set (by simp [compQ, hx]) (fun j hj => by simp [compQ, hj])
theorem comp_add {gs : List (List Nat)} {n m u : Nat} {q : List Nat} {x : Int} (hx : x = ((gs.length - m : Nat) : Int)) : (fz n (compQ gs m q)).set u x = fz n (compQ gs m (q ++ [u])) :=
  fz_set (by simp [compQ, hx]) (fun j hj => by simp [compQ, hj])
theorem compQ_neg {g : Gr} {gs : List (List Nat)} (h : Scc g gs) {i : Nat} {c q : List Nat} (hc : gs[i]? = some c) {u x : Nat} (hu : u < g.n) (hx : x ∈ c) (he : g.Edge u x) : compQ gs (i + 1) q u < 0 ↔ (u ∉ q ∧ u ∈ c) := by
  have e1 := h.whr_eq hc hx
  obtain ⟨k, hk, e⟩ := he
  have e2 := h.whr_edge hu hk
  rw [e, e1] at e2
  have e3 := h.mem_iff hc hu
  unfold compQ
  by_cases hq : u ∈ q
  · rw [if_pos hq]; constructor
    · intro hh; omega
    · intro hh; exact absurd hq hh.1
  · rw [if_neg hq, compF_neg]
    constructor
    · intro hh; exact ⟨hq, e3.2 (by omega)⟩
    · intro hh; have := e3.1 hh.2; omega
theorem comp_full {g : Gr} {gs : List (List Nat)} (h : Scc g gs) {i : Nat} {c q : List Nat} (hc : gs[i]? = some c) (hq : ∀ x, x ∈ q ↔ x ∈ c) : fz g.n (compQ gs (i + 1) q) = fz g.n (compF gs i) := by
  refine fz_congr (fun u hu => ?_)
  have e3 := h.mem_iff hc hu
  have hlt := h.whr_lt hu
  unfold compQ
  by_cases hm : u ∈ q
  · have := e3.1 ((hq u).1 hm)
    rw [if_pos hm]
    unfold compF Kf
    rw [if_pos (by omega)]; omega
  · have : whr gs u ≠ i := fun e => hm ((hq u).2 (e3.2 e))
    rw [if_neg hm]
    unfold compF
    by_cases h1 : i ≤ whr gs u
    · rw [if_pos h1, if_pos (by omega)]
    · rw [if_neg h1, if_neg (by omega)]
theorem comp_none {gs : List (List Nat)} {g : Gr} (h : Scc g gs) : fz g.n (compF gs gs.length) = fz g.n (fun _ => -1) :=
  fz_congr (fun u hu => by have := h.whr_lt hu; unfold compF; rw [if_neg (by omega)])
theorem comp_all {gs : List (List Nat)} {n : Nat} : fz n (compF gs 0) = fl n (Kf gs) :=
  fz_congr (fun u hu => by unfold compF; rw [if_pos (Nat.zero_le _)])
theorem Kf_lt {g : Gr} {gs : List (List Nat)} (h : Scc g gs) {v : Nat} (hv : v < g.n) : Kf gs v < gs.length ∧ gs.length - 1 - Kf gs v = whr gs v := by
  have := h.whr_lt hv
  unfold Kf; omega

/-- the queue has the whole group -/
theorem kos_full {g : Gr} {gs : List (List Nat)} (hs : Scc g gs) (ok : g.Ok) {st pr : List Int} (hp : PredSpec g st pr) {i : Nat} {c q : List Nat} {f : Nat} (hc : gs[i]? = some c) (hsub : ∀ x ∈ q, x ∈ c) (hf : f ∈ q) (hcl : Cl (revGr g pr) c q q.length 0) : ∀ x, x ∈ q ↔ x ∈ c := by
  have hall := hs.fill_bwd ok hc hf (hsub f hf) (fun x hx u hu he => by
    have hxn := hs.lt i c hc x (hsub x hx)
    have hun := hs.lt i c hc u hu
    obtain ⟨q1, h1, h2, h3⟩ := hp.2.2.2 u x hun hxn he
    have hk : q1 - below (edgesTo g g.n) x < (revGr g pr).deg x := by
      show q1 - _ < below (edgesTo g g.n) (x + 1) - _
      omega
    have hnx : (revGr g pr).nx x (q1 - below (edgesTo g g.n) x) = u := by
      show (at0 pr (below (edgesTo g g.n) x + (q1 - below (edgesTo g g.n) x))).toNat = u
      rw [show below (edgesTo g g.n) x + (q1 - below (edgesTo g g.n) x) = q1 by omega, h3]; simp
    have := hcl.done x hx _ hk (by rw [hnx]; exact hu)
    rwa [hnx] at this)
  exact fun x => ⟨hsub x, hall x⟩

/-! ### the layout by components -/
def EV (gs : List (List Nat)) (l : List Nat) : List (Nat × Nat) := l.map fun u => (u, Kf gs u)
def srcs (P : List (Nat × Nat)) (c : Nat) : List Nat := (P.filter fun e => decide (e.2 = c)).map (·.1)
theorem srcs_length (P : List (Nat × Nat)) (c : Nat) : (srcs P c).length = cnt P c := by simp [srcs, cnt]
theorem srcs_snoc (P : List (Nat × Nat)) (i w c : Nat) : srcs (P ++ [(i, w)]) c = srcs P c ++ if c = w then [i] else [] := by
  by_cases h : c = w
  · simp [srcs, h]
  · simp [srcs, h, Ne.symm h]
theorem srcs_EV (gs : List (List Nat)) (l : List Nat) (c : Nat) : srcs (EV gs l) c = l.filter (fun u => decide (Kf gs u = c)) := by
  induction l with
  | nil => rfl
  | cons a l ih =>
    by_cases h : Kf gs a = c
    · simp [srcs, EV, h] at ih ⊢; exact ih
    · simp [srcs, EV, h] at ih ⊢; exact ih
theorem cnt_perm {E F : List (Nat × Nat)} (h : E.Perm F) (v : Nat) : cnt E v = cnt F v := (h.filter _).length_eq
theorem below_perm {E F : List (Nat × Nat)} (h : E.Perm F) (v : Nat) : below E v = below F v := (h.filter _).length_eq

/-- each component's cells so far hold its members so far, in order -/
def LayOk (T P : List (Nat × Nat)) (n : Nat) (pr : List Int) : Prop := ∀ c, c < n → ∀ t, t < cnt P c → at0 pr (below T c + t) = ((nd0 (srcs P c) t : Nat) : Int)
theorem LayOk.start (T : List (Nat × Nat)) (n : Nat) (pr : List Int) : LayOk T [] n pr := fun c _ t ht => by simp [cnt] at ht
theorem LayOk.step {T P : List (Nat × Nat)} {n i w : Nat} {pr : List Int} (hT : ∀ v, cnt P v + (if v = w then 1 else 0) ≤ cnt T v) (hw : w < n) (hl : pr.length = below T n) (h : LayOk T P n pr) :
    below T w + cnt P w < pr.length ∧ LayOk T (P ++ [(i, w)]) n (pr.set (below T w + cnt P w) (i : Int)) := by
  have hTw := hT w
  rw [if_pos rfl] at hTw
  have hlt : below T w + cnt P w < below T (w + 1) := by rw [below_succ]; omega
  have hlt2 : below T w + cnt P w < pr.length := by rw [hl]; exact Nat.lt_of_lt_of_le hlt (below_mono T (by omega))
  refine ⟨hlt2, fun c hc t ht => ?_⟩
  rw [cnt_snoc] at ht
  by_cases e : c = w
  · subst e
    rw [if_pos rfl] at ht
    rw [srcs_snoc, if_pos rfl]
    by_cases et : t = cnt P c
    · subst et
      rw [at0_set_self hlt2]
      rw [← srcs_length]
      simp [nd0]
    · rw [at0_set_other (by omega), h c hc t (by omega), nd0_append (by rw [srcs_length]; omega)]
  · rw [if_neg e] at ht
    rw [srcs_snoc, if_neg e, List.append_nil, ← h c hc t (by omega)]
    apply at0_set_other
    have hTc := hT c
    rw [if_neg e] at hTc
    rcases Nat.lt_or_ge c w with hlt' | hge
    · have a := below_mono T (u := c + 1) (v := w) (by omega)
      rw [below_succ] at a
      omega
    · have a := below_mono T (u := w + 1) (v := c) (by omega)
      omega

section
variable {g : Gr} {gs : List (List Nat)} {pre fin : List Nat}
theorem KS.perm (h : KS g gs pre fin) : (EV gs pre.reverse).Perm (EV gs (List.range g.n)) := by
  apply List.Perm.map
  refine (List.reverse_perm pre).trans ?_
  rw [List.perm_ext_iff_of_nodup h.pnd List.nodup_range]
  intro v
  rw [h.pmem, List.mem_range]
theorem KS.lay (h : KS g gs pre fin) {i : Nat} {l : List Nat} (hi : gs[i]? = some l) : srcs (EV gs pre.reverse) (gs.length - 1 - i) = l := by
  have hil : i < gs.length := (List.getElem?_eq_some_iff.1 hi).1
  rw [srcs_EV]
  refine sorted_eq (ordOf pre) ?_ (h.gsrt l (List.mem_of_getElem? hi)) (fun x => ?_)
  · apply List.Pairwise.filter
    rw [List.pairwise_reverse]
    exact ord_pairwise h.pnd
  · rw [List.mem_filter, List.mem_reverse, h.pmem]
    constructor
    · rintro ⟨a, b⟩
      have b' := of_decide_eq_true b
      have := Kf_lt h.scc a
      exact (h.scc.mem_iff hi a).2 (by omega)
    · intro hx
      have hxn := h.scc.lt i l hi x hx
      have e := (h.scc.mem_iff hi hxn).1 hx
      exact ⟨hxn, decide_eq_true (by unfold Kf; rw [e])⟩
theorem KS.cnt_group (h : KS g gs pre fin) {i : Nat} {l : List Nat} (hi : gs[i]? = some l) : cnt (EV gs (List.range g.n)) (gs.length - 1 - i) = l.length := by
  rw [← cnt_perm h.perm, ← srcs_length, h.lay hi]
theorem KS.below_all (h : KS g gs pre fin) : below (EV gs (List.range g.n)) gs.length = g.n := by
  have : (EV gs (List.range g.n)).filter (fun e => decide (e.2 < gs.length)) = EV gs (List.range g.n) := by
    rw [List.filter_eq_self]
    intro e he
    obtain ⟨u, hu, rfl⟩ := List.mem_map.1 he
    exact decide_eq_true (Kf_lt h.scc (List.mem_range.1 hu)).1
  unfold below
  rw [this]
  simp [EV]
/-- the members' row is done -/
theorem KS.members (h : KS g gs pre fin) {pr : List Int} (hl : LayOk (EV gs (List.range g.n)) (EV gs pre.reverse) gs.length pr) {i : Nat} {l : List Nat} (hi : gs[i]? = some l) {t : Nat} (ht : t < l.length) :
    at0 pr (below (EV gs (List.range g.n)) (gs.length - 1 - i) + t) = ((nd0 l t : Nat) : Int) := by
  have hil : i < gs.length := (List.getElem?_eq_some_iff.1 hi).1
  have := hl (gs.length - 1 - i) (by omega) t (by rw [cnt_perm h.perm, h.cnt_group hi]; exact ht)
  rw [h.lay hi] at this
  exact this
end

end Go.Proofs.Qxb6603026a
