/-
  How a state of Tarjan's walk lies in memory (definition.graph.groups, its closure visit). No program is named here.
-/
import Derived.Test.Qxb6603026aMem
import Derived.Test.Qxb6603026aTarjan
namespace Go.Proofs.Qxb6603026a
open Go.RowKit

/-- a function on 0 .. n-1 as a list of numbers -/
def fl (n : Nat) (f : Nat → Nat) : List Int := (List.range n).map fun i => (f i : Int)
/-- a test on 0 .. n-1 as a row of bools -/
def bl (n : Nat) (f : Nat → Bool) : List Value := (List.range n).map fun i => .bool (f i)
/-- nodes as numbers -/
def ns (l : List Nat) : List Int := l.map Int.ofNat
/-- frames as cells: two a frame -/
def frs : List (Nat × Nat) → List Value
  | [] => []
  | q :: l => .int .i64 (q.1 : Int) :: .int .i64 (q.2 : Int) :: frs l

theorem fl_length (n : Nat) (f : Nat → Nat) : (fl n f).length = n := by simp [fl]
theorem at0_fl {n i : Nat} (f : Nat → Nat) (h : i < n) : at0 (fl n f) i = (f i : Int) := by simp [at0, fl, h]
theorem fl_set {n i x : Nat} (f : Nat → Nat) : (fl n f).set i (x : Int) = fl n (upd f i x) := by
  apply List.ext_getElem?
  intro j
  by_cases hj : j < n
  · by_cases e : j = i
    · subst e; simp [fl, hj, upd]
    · simp [fl, hj, upd, e, Ne.symm e]
  · simp [fl, hj]
theorem fl_congr {n : Nat} {f g : Nat → Nat} (h : ∀ i, i < n → f i = g i) : fl n f = fl n g := by
  unfold fl
  exact List.map_congr_left (fun i hi => by rw [h i (List.mem_range.1 hi)])
theorem bl_length (n : Nat) (f : Nat → Bool) : (bl n f).length = n := by simp [bl]
theorem bl_get {n i : Nat} (f : Nat → Bool) (h : i < n) : (bl n f)[i]? = some (.bool (f i)) := by simp [bl, h]
theorem bl_set {n i : Nat} {x : Bool} (f : Nat → Bool) : (bl n f).set i (.bool x) = bl n (upd f i x) := by
  apply List.ext_getElem?
  intro j
  by_cases hj : j < n
  · by_cases e : j = i
    · subst e; simp [bl, hj, upd]
    · simp [bl, hj, upd, e, Ne.symm e]
  · simp [bl, hj]
theorem bl_congr {n : Nat} {f g : Nat → Bool} (h : ∀ i, i < n → f i = g i) : bl n f = bl n g := by
  unfold bl
  exact List.map_congr_left (fun i hi => by rw [h i (List.mem_range.1 hi)])
theorem ns_length (l : List Nat) : (ns l).length = l.length := by simp [ns]
theorem ns_append (l m : List Nat) : ns (l ++ m) = ns l ++ ns m := by simp [ns]
theorem at0_ns {l : List Nat} {k : Nat} (h : k < l.length) : at0 (ns l) k = ((l[k] : Nat) : Int) := by simp [at0, ns, h]
theorem ns_one (x : Nat) : ns [x] = [(x : Int)] := rfl
theorem frs_length (l : List (Nat × Nat)) : (frs l).length = l.length * 2 := by
  induction l with
  | nil => rfl
  | cons q l ih => simp only [frs, List.length_cons, ih]; omega
theorem frs_append (l m : List (Nat × Nat)) : frs (l ++ m) = frs l ++ frs m := by
  induction l with
  | nil => rfl
  | cons q l ih => simp [frs, ih]
theorem frs_get {l : List (Nat × Nat)} {i : Nat} (h : i < l.length) : (frs l)[i * 2]? = some (.int .i64 (l[i].1 : Int)) ∧ (frs l)[i * 2 + 1]? = some (.int .i64 (l[i].2 : Int)) := by
  induction l generalizing i with
  | nil => simp at h
  | cons q l ih =>
    cases i with
    | zero => simp [frs]
    | succ i =>
      have := ih (i := i) (by simpa using h)
      have e1 : (i + 1) * 2 = i * 2 + 1 + 1 := by omega
      simp only [frs, e1, List.getElem?_cons_succ, List.getElem_cons_succ]
      exact this
/-- the last frame's two cells -/
theorem frs_last (l : List (Nat × Nat)) (q : Nat × Nat) : (frs (l ++ [q]))[l.length * 2]? = some (.int .i64 (q.1 : Int)) ∧ (frs (l ++ [q]))[l.length * 2 + 1]? = some (.int .i64 (q.2 : Int)) := by
  have := frs_get (l := l ++ [q]) (i := l.length) (by simp)
  simpa using this
theorem frs_set_last (l : List (Nat × Nat)) (i k k' : Nat) : (frs (l ++ [(i, k)])).set (l.length * 2 + 1) (.int .i64 (k' : Int)) = frs (l ++ [(i, k')]) := by
  rw [frs_append, frs_append, List.set_append_right _ _ (by rw [frs_length]; omega)]
  congr 1
  rw [frs_length]
  simp [frs]

/-- The world at hand under a letter, of which only R is known. -/
theorem at_world {P : Program} {c : Code} {Q : Exit → Act → World → Prop} {a : Act} {W : World} (R : World → Prop) (hR : R W) (h : ∀ w, R w → Code.wp P c Q a w) : Code.wp P c Q a W := h W hR

/-- The boxes and the three rows of the call that began at heap size H: blocks H+1 .. H+9. -/
structure CMem (H n : Nat) (o l : Nat → Nat) (b : Nat → Bool) (r : Nat) (sv wv : Value) (w : World) : Prop where
  ord : IRow w (H + 1) n (fl n o)
  low : IRow w (H + 3) n (fl n l)
  ons : Row w 4 1 (H + 5) n n (bl n b)
  c2 : w.heap[H + 2]? = some (.cells #[.slice (some ⟨H + 1, 0, none⟩) n n] 26 (0, 0))
  c4 : w.heap[H + 4]? = some (.cells #[.slice (some ⟨H + 3, 0, none⟩) n n] 26 (0, 0))
  c6 : w.heap[H + 6]? = some (.cells #[.slice (some ⟨H + 5, 0, none⟩) n n] 57 (0, 0))
  c7 : w.heap[H + 7]? = some (.cells #[sv] 26 (0, 0))
  c8 : w.heap[H + 8]? = some (.cells #[.int .i64 (r : Int)] 3 (0, 0))
  c9 : w.heap[H + 9]? = some (.cells #[wv] 65 (0, 0))

theorem cell_of_box {w : World} {b : Nat} {v : Value} {t : TypeId} (h : w.heap[b]? = some (.cells #[v] t (0, 0))) : w.cell? ⟨b, 0, none⟩ = some v ∧ w.frozen? ⟨b, 0, none⟩ = false := by
  simp [World.cell?, World.frozen?, h]
theorem box_set {w : World} {b : Nat} {v u : Value} {t : TypeId} (h : w.heap[b]? = some (.cells #[v] t (0, 0))) : (w.setCell ⟨b, 0, none⟩ u).heap[b]? = some (.cells #[u] t (0, 0)) := by
  have := heap_setCell_same w b 0 #[v] t u h
  simpa using this

section
variable {H n : Nat} {o l : Nat → Nat} {b : Nat → Bool} {r : Nat} {sv wv : Value} {w w' : World}

theorem CMem.size (h : CMem H n o l b r sv wv w) : H + 10 ≤ w.heap.size := by
  have := (Array.getElem?_eq_some_iff.1 h.c9).1
  omega
theorem CMem.keep (h : CMem H n o l b r sv wv w) (hk : ∀ k, H + 1 ≤ k → k ≤ H + 9 → w'.heap[k]? = w.heap[k]?) : CMem H n o l b r sv wv w' :=
  ⟨h.ord.congr (hk _ (by omega) (by omega)), h.low.congr (hk _ (by omega) (by omega)), h.ons.congr (hk _ (by omega) (by omega)),
    (hk _ (by omega) (by omega)).trans h.c2, (hk _ (by omega) (by omega)).trans h.c4, (hk _ (by omega) (by omega)).trans h.c6,
    (hk _ (by omega) (by omega)).trans h.c7, (hk _ (by omega) (by omega)).trans h.c8, (hk _ (by omega) (by omega)).trans h.c9⟩
theorem CMem.alloc (h : CMem H n o l b r sv wv w) (x : Obj) : CMem H n o l b r sv wv (w.alloc x) :=
  h.keep (fun k _ _ => Below.heap_alloc _ _ _ (by have := h.size; omega))
theorem CMem.drew (h : CMem H n o l b r sv wv w) : CMem H n o l b r sv wv w.drew := h.keep (fun _ _ _ => rfl)
theorem CMem.drewN (h : CMem H n o l b r sv wv w) (k : Nat) : CMem H n o l b r sv wv (w.drewN k) := h.keep (fun _ _ _ => rfl)
theorem CMem.grown {row : Option Nat} (h : CMem H n o l b r sv wv w) (hg : w.grownBy w' row) (hr : ∀ k, row = some k → H + 10 ≤ k) : CMem H n o l b r sv wv w' :=
  h.keep (fun k _ _ => hg.block k (by have := h.size; omega) (fun e => by have := hr k e.symm; omega))
theorem CMem.far (h : CMem H n o l b r sv wv w) {a : Addr} (ha : H + 10 ≤ a.block) (u : Value) : CMem H n o l b r sv wv (w.setCell a u) :=
  h.keep (fun k _ _ => Below.heap_setCell _ _ _ _ (by omega))
theorem CMem.st1 (h : CMem H n o l b r sv wv w) {i x : Nat} : CMem H n (upd o i x) l b r sv wv (w.setCell ⟨H + 1, i, none⟩ (.int .i64 (x : Int))) := by
  have ht : ∀ k, k ≠ H + 1 → (w.setCell ⟨H + 1, i, none⟩ (.int .i64 (x : Int))).heap[k]? = w.heap[k]? := fun k hk => Below.heap_setCell _ _ _ _ hk
  refine ⟨?_, h.low.congr (ht _ (by omega)), h.ons.congr (ht _ (by omega)), (ht _ (by omega)).trans h.c2, (ht _ (by omega)).trans h.c4, (ht _ (by omega)).trans h.c6, (ht _ (by omega)).trans h.c7, (ht _ (by omega)).trans h.c8, (ht _ (by omega)).trans h.c9⟩
  rw [← fl_set]; exact h.ord.set i _
theorem CMem.st3 (h : CMem H n o l b r sv wv w) {i x : Nat} : CMem H n o (upd l i x) b r sv wv (w.setCell ⟨H + 3, i, none⟩ (.int .i64 (x : Int))) := by
  have ht : ∀ k, k ≠ H + 3 → (w.setCell ⟨H + 3, i, none⟩ (.int .i64 (x : Int))).heap[k]? = w.heap[k]? := fun k hk => Below.heap_setCell _ _ _ _ hk
  refine ⟨h.ord.congr (ht _ (by omega)), ?_, h.ons.congr (ht _ (by omega)), (ht _ (by omega)).trans h.c2, (ht _ (by omega)).trans h.c4, (ht _ (by omega)).trans h.c6, (ht _ (by omega)).trans h.c7, (ht _ (by omega)).trans h.c8, (ht _ (by omega)).trans h.c9⟩
  rw [← fl_set]; exact h.low.set i _
theorem CMem.st5 (h : CMem H n o l b r sv wv w) {i : Nat} {x : Bool} : CMem H n o l (upd b i x) r sv wv (w.setCell ⟨H + 5, i, none⟩ (.bool x)) := by
  have ht : ∀ k, k ≠ H + 5 → (w.setCell ⟨H + 5, i, none⟩ (.bool x)).heap[k]? = w.heap[k]? := fun k hk => Below.heap_setCell _ _ _ _ hk
  refine ⟨h.ord.congr (ht _ (by omega)), h.low.congr (ht _ (by omega)), ?_, (ht _ (by omega)).trans h.c2, (ht _ (by omega)).trans h.c4, (ht _ (by omega)).trans h.c6, (ht _ (by omega)).trans h.c7, (ht _ (by omega)).trans h.c8, (ht _ (by omega)).trans h.c9⟩
  rw [← bl_set]; exact h.ons.set i _
theorem CMem.st7 (h : CMem H n o l b r sv wv w) (u : Value) : CMem H n o l b r u wv (w.setCell ⟨H + 7, 0, none⟩ u) := by
  have ht : ∀ k, k ≠ H + 7 → (w.setCell ⟨H + 7, 0, none⟩ u).heap[k]? = w.heap[k]? := fun k hk => Below.heap_setCell _ _ _ _ hk
  exact ⟨h.ord.congr (ht _ (by omega)), h.low.congr (ht _ (by omega)), h.ons.congr (ht _ (by omega)), (ht _ (by omega)).trans h.c2, (ht _ (by omega)).trans h.c4, (ht _ (by omega)).trans h.c6, box_set h.c7, (ht _ (by omega)).trans h.c8, (ht _ (by omega)).trans h.c9⟩
theorem CMem.st8 (h : CMem H n o l b r sv wv w) (x : Nat) : CMem H n o l b x sv wv (w.setCell ⟨H + 8, 0, none⟩ (.int .i64 (x : Int))) := by
  have ht : ∀ k, k ≠ H + 8 → (w.setCell ⟨H + 8, 0, none⟩ (.int .i64 (x : Int))).heap[k]? = w.heap[k]? := fun k hk => Below.heap_setCell _ _ _ _ hk
  exact ⟨h.ord.congr (ht _ (by omega)), h.low.congr (ht _ (by omega)), h.ons.congr (ht _ (by omega)), (ht _ (by omega)).trans h.c2, (ht _ (by omega)).trans h.c4, (ht _ (by omega)).trans h.c6, (ht _ (by omega)).trans h.c7, box_set h.c8, (ht _ (by omega)).trans h.c9⟩
theorem CMem.st9 (h : CMem H n o l b r sv wv w) (u : Value) : CMem H n o l b r sv u (w.setCell ⟨H + 9, 0, none⟩ u) := by
  have ht : ∀ k, k ≠ H + 9 → (w.setCell ⟨H + 9, 0, none⟩ u).heap[k]? = w.heap[k]? := fun k hk => Below.heap_setCell _ _ _ _ hk
  exact ⟨h.ord.congr (ht _ (by omega)), h.low.congr (ht _ (by omega)), h.ons.congr (ht _ (by omega)), (ht _ (by omega)).trans h.c2, (ht _ (by omega)).trans h.c4, (ht _ (by omega)).trans h.c6, (ht _ (by omega)).trans h.c7, (ht _ (by omega)).trans h.c8, box_set h.c9⟩
theorem CMem.st1' (h : CMem H n o l b r sv wv w) {i x : Nat} {z : Int} (hz : z = (x : Int)) : CMem H n (upd o i x) l b r sv wv (w.setCell ⟨H + 1, i, none⟩ (.int .i64 z)) := by subst hz; exact h.st1
theorem CMem.st3' (h : CMem H n o l b r sv wv w) {i x : Nat} {z : Int} (hz : z = (x : Int)) : CMem H n o (upd l i x) b r sv wv (w.setCell ⟨H + 3, i, none⟩ (.int .i64 z)) := by subst hz; exact h.st3
theorem CMem.st8' (h : CMem H n o l b r sv wv w) {x : Nat} {z : Int} (hz : z = (x : Int)) : CMem H n o l b x sv wv (w.setCell ⟨H + 8, 0, none⟩ (.int .i64 z)) := by subst hz; exact h.st8 x
theorem CMem.congr {o' l' : Nat → Nat} {b' : Nat → Bool} (h : CMem H n o l b r sv wv w) (ho : ∀ i, i < n → o i = o' i) (hl : ∀ i, i < n → l i = l' i) (hb : ∀ i, i < n → b i = b' i) : CMem H n o' l' b' r sv wv w := by
  obtain ⟨a1, a2, a3, r1, r2, r3, r4, r5, r6⟩ := h
  rw [fl_congr ho] at a1
  rw [fl_congr hl] at a2
  rw [bl_congr hb] at a3
  exact ⟨a1, a2, a3, r1, r2, r3, r4, r5, r6⟩
end

/-- What a step turns: nothing up to block H; from H+10 on nothing but blocks of X and new ones. -/
structure GFr (H : Nat) (X : Nat → Prop) (w w' : World) : Prop where
  os : w'.os = w.os
  tape : w'.tape = w.tape
  output : w'.output = w.output
  size : w.heap.size ≤ w'.heap.size
  old : ∀ b, b ≤ H → w'.heap[b]? = w.heap[b]?
  own : ∀ b, H + 10 ≤ b → b < w.heap.size → ¬ X b → w'.heap[b]? = w.heap[b]?

section
variable {H : Nat} {X : Nat → Prop} {a w w' : World}
theorem GFr.refl (H : Nat) (X : Nat → Prop) (w : World) : GFr H X w w := ⟨rfl, rfl, rfl, Nat.le_refl _, fun _ _ => rfl, fun _ _ _ _ => rfl⟩
theorem GFr.trans (h : GFr H X a w) (k : GFr H X w w') : GFr H X a w' :=
  ⟨k.os.trans h.os, k.tape.trans h.tape, k.output.trans h.output, Nat.le_trans h.size k.size, fun b hb => (k.old b hb).trans (h.old b hb),
    fun b hb hlt hx => (k.own b hb (Nat.lt_of_lt_of_le hlt h.size) hx).trans (h.own b hb hlt hx)⟩
theorem GFr.mono {X' : Nat → Prop} (h : GFr H X a w) (hX : ∀ b, X b → X' b) : GFr H X' a w :=
  ⟨h.os, h.tape, h.output, h.size, h.old, fun b hb hlt hx => h.own b hb hlt (fun hh => hx (hX b hh))⟩
theorem GFr.setCell (h : GFr H X a w) {p : Addr} (hp : H < p.block) (hx : H + 10 ≤ p.block → X p.block ∨ a.heap.size ≤ p.block) (u : Value) : GFr H X a (w.setCell p u) := by
  refine ⟨h.os, h.tape, h.output, ?_, fun b hb => ?_, fun b hb hlt hn => ?_⟩
  · simpa [World.setCell] using h.size
  · exact (Below.heap_setCell _ _ _ _ (by omega)).trans (h.old b hb)
  · refine (Below.heap_setCell _ _ _ _ (fun e => ?_)).trans (h.own b hb hlt hn)
    subst e
    rcases hx hb with hx | hx
    · exact hn hx
    · omega
theorem GFr.alloc (h : GFr H X a w) (hs : H + 10 ≤ w.heap.size) (x : Obj) : GFr H X a (w.alloc x) := by
  refine ⟨h.os, h.tape, h.output, by have := h.size; simp; omega, fun b hb => ?_, fun b hb hlt hn => ?_⟩
  · exact (Below.heap_alloc _ _ _ (by omega)).trans (h.old b hb)
  · exact (Below.heap_alloc _ _ _ (by have := h.size; omega)).trans (h.own b hb hlt hn)
theorem GFr.drew (h : GFr H X a w) : GFr H X a w.drew := ⟨h.os, h.tape, h.output, h.size, h.old, h.own⟩
theorem GFr.drewN (h : GFr H X a w) (k : Nat) : GFr H X a (w.drewN k) := ⟨h.os, h.tape, h.output, h.size, h.old, h.own⟩
theorem GFr.grown {row : Option Nat} (h : GFr H X a w) (hs : H + 10 ≤ w.heap.size) (hg : w.grownBy w' row) (hr : ∀ k, row = some k → H + 10 ≤ k ∧ (X k ∨ a.heap.size ≤ k)) : GFr H X a w' := by
  refine ⟨hg.os.trans h.os, hg.tape.trans h.tape, hg.output.trans h.output, Nat.le_trans h.size hg.size, fun b hb => ?_, fun b hb hlt hn => ?_⟩
  · exact (hg.block b (by omega) (fun e => by have := (hr b e.symm).1; omega)).trans (h.old b hb)
  · refine (hg.block b (by have := h.size; omega) (fun e => ?_)).trans (h.own b hb hlt hn)
    rcases (hr b e.symm).2 with hx | hx
    · exact hn hx
    · omega
theorem GFr.below (h : GFr H X a w) : Below (H + 1) a w := ⟨h.os, h.tape, h.output, h.size, fun k hk => h.old k (by omega)⟩
end

/-- The state lies in memory; sv, wv: the stack's and the frames' slices. -/
structure GMem (H n : Nat) (s : TS) (w : World) (sv wv : Value) : Prop where
  mem : CMem H n s.ord s.low (fun v => decide (v ∈ s.stk)) s.pre.length sv wv w
  stk : w.ownsRow (H + 10) 3 1 sv s.stk.length (ints (ns s.stk))
  wlk : w.ownsRow (H + 10) 67 2 wv s.wlk.length (frs s.wlk)

/-- the block of the stack's row, or of the frames' row -/
def SW (sv wv : Value) : Nat → Prop := fun b => some b = sv.ownBlock ∨ some b = wv.ownBlock

end Go.Proofs.Qxb6603026a
