/-
  Memory: how slices of ints and slices of slices of ints lie in the model's heap, for this seat's walks. No program is named here.
-/
import Derived.WalkKit
import Derived.ProofKit
import Derived.WalkSmall
import Derived.Deep.AppendLies
namespace Go.Proofs.Qxb6603026a
open Go.RowKit

/-- element k of a list of numbers (a plain def: the walk's simp does not open it) -/
def at0 (l : List Int) (k : Nat) : Int := l.getD k 0
/-- row i of a list of lists -/
def row0 (d : List (List Int)) (i : Nat) : List Int := d.getD i []

theorem at0_eq {l : List Int} {k : Nat} (h : k < l.length) : at0 l k = l[k] := by simp [at0, h]
theorem at0_some {l : List Int} {k : Nat} (h : k < l.length) : l[k]? = some (at0 l k) := by simp [at0, h]
theorem at0_mem {l : List Int} {k : Nat} (h : k < l.length) : at0 l k ∈ l := by rw [at0_eq h]; exact List.getElem_mem h
theorem row0_eq {d : List (List Int)} {k : Nat} (h : k < d.length) : row0 d k = d[k] := by simp [row0, h]
theorem row0_mem {d : List (List Int)} {k : Nat} (h : k < d.length) : row0 d k ∈ d := by rw [row0_eq h]; exact List.getElem_mem h
theorem at0_set {l : List Int} {k j : Nat} {x : Int} (h : k < l.length) : at0 (l.set k x) j = if j = k then x else at0 l j := by
  unfold at0
  by_cases e : j = k
  · subst e; simp [h]
  · simp [e, Ne.symm e]
theorem at0_set_self {l : List Int} {k : Nat} {x : Int} (h : k < l.length) : at0 (l.set k x) k = x := by rw [at0_set h, if_pos rfl]
theorem at0_set_other {l : List Int} {k j : Nat} {x : Int} (h : j ≠ k) : at0 (l.set k x) j = at0 l j := by
  simp [at0, Ne.symm h]
theorem at0_append_left {l m : List Int} {k : Nat} (h : k < l.length) : at0 (l ++ m) k = at0 l k := by simp [at0, List.getElem?_append_left h]
theorem at0_append_self {l : List Int} {x : Int} : at0 (l ++ [x]) l.length = x := by simp [at0]
theorem at0_replicate {n k : Nat} {x : Int} (h : k < n) : at0 (List.replicate n x) k = x := by simp [at0, h]
theorem at0_ext {l m : List Int} (hl : l.length = m.length) (h : ∀ k, k < l.length → at0 l k = at0 m k) : l = m := by
  apply List.ext_getElem hl
  intro k h1 h2
  have := h k h1
  rwa [at0_eq h1, at0_eq h2] at this

/-- numbers as values -/
def ints (l : List Int) : List Value := l.map (Value.int .i64)
theorem ints_length (l : List Int) : (ints l).length = l.length := by simp [ints]
theorem ints_get {l : List Int} {k : Nat} (h : k < l.length) : (ints l)[k]? = some (.int .i64 (at0 l k)) := by
  simp [ints, at0_some h]
theorem ints_set (l : List Int) (k : Nat) (x : Int) : (ints l).set k (.int .i64 x) = ints (l.set k x) := by simp [ints, List.map_set]
theorem ints_append (l m : List Int) : ints l ++ ints m = ints (l ++ m) := by simp [ints]
theorem ints_replicate (n : Nat) (x : Int) : List.replicate n (Value.int .i64 x) = ints (List.replicate n x) := by simp [ints]
theorem ints_take (l : List Int) (m : Nat) : (ints l).take m = ints (l.take m) := by simp [ints, List.map_take]

/-! ### What is read: slices that lie in a set of blocks -/

/-- The value v is a slice of ints that reads as l; its cells lie in blocks of S. -/
def IntsIn (S : Nat → Prop) (w : World) (v : Value) (l : List Int) : Prop :=
  ∃ a b off cap, v = .slice a l.length cap ∧ l.length ≤ maxLen ∧ (0 < l.length → a = some ⟨b, off, none⟩ ∧ S b) ∧
    ∀ k, k < l.length → w.cell? ⟨b, off + k, none⟩ = some (.int .i64 (at0 l k))

/-- The value v is a slice of slices of ints that reads as d; its cells lie in blocks of S. -/
def RowsIn (S : Nat → Prop) (w : World) (v : Value) (d : List (List Int)) : Prop :=
  ∃ a b off cap, ∃ vs : Nat → Value, v = .slice a d.length cap ∧ d.length ≤ maxLen ∧ (0 < d.length → a = some ⟨b, off, none⟩ ∧ S b) ∧
    ∀ i, i < d.length → w.cell? ⟨b, off + i, none⟩ = some (vs i) ∧ IntsIn S w (vs i) (row0 d i)

/-- .. below block B -/
def IntsAt (B : Nat) (w : World) (v : Value) (l : List Int) : Prop := IntsIn (fun b => b < B) w v l
def RowsAt (B : Nat) (w : World) (v : Value) (d : List (List Int)) : Prop := RowsIn (fun b => b < B) w v d

section
variable {S S' : Nat → Prop} {w w' : World} {v : Value} {l : List Int} {d : List (List Int)} {B B' : Nat}

theorem IntsIn.weaken (h : IntsIn S w v l) (hS : ∀ b, S b → S' b) : IntsIn S' w v l := by
  obtain ⟨a, b, off, cap, h1, h2, h3, h4⟩ := h
  exact ⟨a, b, off, cap, h1, h2, fun hl => ⟨(h3 hl).1, hS _ (h3 hl).2⟩, h4⟩
theorem IntsIn.same (h : IntsIn S w v l) (hb : ∀ b, S b → w'.heap[b]? = w.heap[b]?) : IntsIn S w' v l := by
  obtain ⟨a, b, off, cap, h1, h2, h3, h4⟩ := h
  exact ⟨a, b, off, cap, h1, h2, h3, fun k hk => (World.cell?_of_block (w := w) (a := ⟨b, off + k, none⟩) (hb b (h3 (by omega)).2)).trans (h4 k hk)⟩
theorem RowsIn.weaken (h : RowsIn S w v d) (hS : ∀ b, S b → S' b) : RowsIn S' w v d := by
  obtain ⟨a, b, off, cap, vs, h1, h2, h3, h4⟩ := h
  exact ⟨a, b, off, cap, vs, h1, h2, fun hl => ⟨(h3 hl).1, hS _ (h3 hl).2⟩, fun i hi => ⟨(h4 i hi).1, (h4 i hi).2.weaken hS⟩⟩
theorem RowsIn.same (h : RowsIn S w v d) (hb : ∀ b, S b → w'.heap[b]? = w.heap[b]?) : RowsIn S w' v d := by
  obtain ⟨a, b, off, cap, vs, h1, h2, h3, h4⟩ := h
  exact ⟨a, b, off, cap, vs, h1, h2, h3, fun i hi => ⟨(World.cell?_of_block (w := w) (a := ⟨b, off + i, none⟩) (hb b (h3 (by omega)).2)).trans (h4 i hi).1, (h4 i hi).2.same hb⟩⟩

theorem IntsIn.lt (h : IntsIn S w v l) (hl : 0 < l.length) : ∃ b, S b ∧ b < w.heap.size := by
  obtain ⟨a, b, off, cap, h1, h2, h3, h4⟩ := h
  exact ⟨b, (h3 hl).2, World.block_lt_of_cell? w ⟨b, off + 0, none⟩ (h4 0 hl)⟩

theorem IntsAt.mono (h : IntsAt B w v l) (hB : B ≤ B') : IntsAt B' w v l := IntsIn.weaken h (fun _ hb => Nat.lt_of_lt_of_le hb hB)
theorem IntsAt.below (h : IntsAt B w v l) (hb : Below B w w') : IntsAt B w' v l := IntsIn.same h (fun b hs => hb.block b hs)
theorem RowsAt.mono (h : RowsAt B w v d) (hB : B ≤ B') : RowsAt B' w v d := RowsIn.weaken h (fun _ hb => Nat.lt_of_lt_of_le hb hB)
theorem RowsAt.below (h : RowsAt B w v d) (hb : Below B w w') : RowsAt B w' v d := RowsIn.same h (fun b hs => hb.block b hs)
theorem IntsIn.form (h : IntsIn S w v l) : ∃ a cap, v = .slice a l.length cap := by
  obtain ⟨a, b, off, cap, h1, _⟩ := h
  exact ⟨a, cap, h1⟩
theorem IntsIn.nil (hl : l.length = 0) : IntsIn S w (.slice none 0 0) l :=
  ⟨none, 0, 0, 0, by rw [hl], by omega, fun h => by omega, fun k hk => by omega⟩
end

/-! ### What a call owns: a row in a block of its own, from offset 0 -/

/-- Block g holds the row xs: n elements of 'size' cells each, room for cap. -/
def Row (w : World) (e : TypeId) (size g n cap : Nat) (xs : List Value) : Prop := w.ownsRow 0 e size (.slice (some ⟨g, 0, none⟩) n cap) n xs

/-- Block g holds the numbers l. -/
def IRow (w : World) (g cap : Nat) (l : List Int) : Prop := Row w 3 1 g l.length cap (ints l)

section
variable {w w' : World} {e : TypeId} {size g n cap : Nat} {xs : List Value} {l : List Int}

theorem Row.lt (h : Row w e size g n cap xs) : g < w.heap.size := (World.ownsRow.lt h g rfl).2
theorem Row.cell (h : Row w e size g n cap xs) {j : Nat} (hj : j < n * size) : w.cell? ⟨g, j, none⟩ = xs[j]? := World.ownsRow.cellAt h j hj
theorem Row.cellEx (h : Row w e size g n cap xs) {j : Nat} (hj : j < n * size) : ∃ u, w.cell? ⟨g, j, none⟩ = some u := by
  rw [World.ownsRow.cellAt h j hj]
  exact ⟨_, List.getElem?_eq_getElem (by rw [h.1]; exact hj)⟩
theorem Row.frozen (h : Row w e size g n cap xs) (j : Nat) : w.frozen? ⟨g, j, none⟩ = false := World.ownsRow.frozenAt h j
theorem Row.set (h : Row w e size g n cap xs) (j : Nat) (u : Value) : Row (w.setCell ⟨g, j, none⟩ u) e size g n cap (xs.set j u) := (World.ownsRow.stored h j u).1
/-- A row hangs on its own block alone. -/
theorem Row.congr (h : Row w e size g n cap xs) (hg : w'.heap[g]? = w.heap[g]?) : Row w' e size g n cap xs := by
  refine ⟨h.1, ?_⟩
  rcases h.2 with ⟨h', _⟩ | ⟨g', cap', cur, h', hb, hgg, rest⟩
  · cases h'
  · cases h'
    exact .inr ⟨g, cap, cur, rfl, hb, by rw [hg]; exact hgg, rest⟩
theorem Row.other (h : Row w e size g n cap xs) {a : Addr} (ha : a.block ≠ g) (u : Value) : Row (w.setCell a u) e size g n cap xs :=
  h.congr (Below.heap_setCell _ _ _ _ (fun e => ha e.symm))
theorem Row.alloc (h : Row w e size g n cap xs) (o : Obj) : Row (w.alloc o) e size g n cap xs := h.congr (Below.heap_alloc _ _ _ h.lt)
theorem Row.drew (h : Row w e size g n cap xs) : Row w.drew e size g n cap xs := h
theorem Row.drewN (h : Row w e size g n cap xs) (k : Nat) : Row (w.drewN k) e size g n cap xs := h.congr rfl
theorem Row.below {B : Nat} (h : Row w e size g n cap xs) (hb : Below B w w') (hg : g < B) : Row w' e size g n cap xs := h.congr (hb.block g hg)
theorem Row.grown {row : Option Nat} (h : Row w e size g n cap xs) (hg : w.grownBy w' row) (hne : some g ≠ row) : Row w' e size g n cap xs := h.congr (hg.block g h.lt hne)
theorem Row.length (h : Row w e size g n cap xs) : xs.length = n * size := h.1
theorem Row.cap_le (h : Row w e size g n cap xs) : n ≤ cap ∧ cap ≤ maxLen := by
  rcases h.2 with ⟨h', _⟩ | ⟨g', cap', cur, h', hb, hgg, h1, h2, rest⟩
  · cases h'
  · cases h'; exact ⟨h1, h2⟩
/-- two rows of different element types lie in different blocks -/
theorem Row.ne_of_type {e' : TypeId} {size' g' n' cap' : Nat} {xs' : List Value} (h : Row w e size g n cap xs) (h' : Row w e' size' g' n' cap' xs') (he : e ≠ e') : g ≠ g' := by
  rintro rfl
  rcases h.2 with ⟨h0, _⟩ | ⟨_, _, cur, h0, _, h1, _⟩ <;> cases h0
  rcases h'.2 with ⟨h0, _⟩ | ⟨_, _, cur', h0, _, h1', _⟩ <;> cases h0
  rw [h1] at h1'
  simp at h1'
  exact he h1'.2
/-- what is appended to is owned from any mark up to its block on -/
theorem Row.owns (h : Row w e size g n cap xs) {base : Nat} (hb : base ≤ g) : w.ownsRow base e size (.slice (some ⟨g, 0, none⟩) n cap) n xs := by
  refine ⟨h.1, ?_⟩
  rcases h.2 with ⟨h', _⟩ | ⟨g', cap', cur, h', _, rest⟩
  · cases h'
  · cases h'; exact .inr ⟨g, cap, cur, rfl, hb, rest⟩
theorem Row.of_owns {base : Nat} (h : w.ownsRow base e size (.slice (some ⟨g, 0, none⟩) n cap) n xs) : Row w e size g n cap xs := by
  refine ⟨h.1, ?_⟩
  rcases h.2 with ⟨h', _⟩ | ⟨g', cap', cur, h', _, rest⟩
  · cases h'
  · cases h'; exact .inr ⟨g, cap, cur, rfl, Nat.zero_le _, rest⟩
/-- a shorter row in the same block: 's[:m]' -/
theorem Row.take (h : Row w e size g n cap xs) {m : Nat} (hm : m ≤ n) : Row w e size g m cap (xs.take (m * size)) := by
  refine ⟨?_, ?_⟩
  · rw [List.length_take, h.1, Nat.min_eq_left (Nat.mul_le_mul_right _ hm)]
  · rcases h.2 with ⟨h', _⟩ | ⟨g', cap', cur, h', hb, hgg, h1, h2, h3, h4⟩
    · cases h'
    · cases h'
      refine .inr ⟨g, cap, cur, rfl, hb, hgg, by omega, h2, h3, ?_⟩
      rw [← h4, List.take_take, Nat.min_eq_left (Nat.mul_le_mul_right _ hm)]

theorem IRow.lt (h : IRow w g cap l) : g < w.heap.size := Row.lt h
theorem IRow.cell (h : IRow w g cap l) {j : Nat} (hj : j < l.length) : w.cell? ⟨g, j, none⟩ = some (.int .i64 (at0 l j)) := by
  rw [Row.cell h (by omega), ints_get hj]
theorem IRow.frozen (h : IRow w g cap l) (j : Nat) : w.frozen? ⟨g, j, none⟩ = false := Row.frozen h j
theorem IRow.set (h : IRow w g cap l) (j : Nat) (x : Int) : IRow (w.setCell ⟨g, j, none⟩ (.int .i64 x)) g cap (l.set j x) := by
  have := Row.set h j (.int .i64 x)
  rw [ints_set] at this
  unfold IRow
  rw [List.length_set]
  exact this
theorem IRow.other (h : IRow w g cap l) {a : Addr} (ha : a.block ≠ g) (u : Value) : IRow (w.setCell a u) g cap l := Row.other h ha u
theorem IRow.alloc (h : IRow w g cap l) (o : Obj) : IRow (w.alloc o) g cap l := Row.alloc h o
theorem IRow.drew (h : IRow w g cap l) : IRow w.drew g cap l := h
theorem IRow.drewN (h : IRow w g cap l) (k : Nat) : IRow (w.drewN k) g cap l := Row.drewN h k
theorem IRow.below {B : Nat} (h : IRow w g cap l) (hb : Below B w w') (hg : g < B) : IRow w' g cap l := Row.below h hb hg
theorem IRow.grown {row : Option Nat} (h : IRow w g cap l) (hg : w.grownBy w' row) (hne : some g ≠ row) : IRow w' g cap l := Row.grown h hg hne
theorem IRow.cap_le (h : IRow w g cap l) : l.length ≤ cap ∧ cap ≤ maxLen := Row.cap_le h
theorem IRow.take (h : IRow w g cap l) {m : Nat} (hm : m ≤ l.length) : IRow w g cap (l.take m) := by
  have := Row.take h hm
  rw [Nat.mul_one, ints_take] at this
  unfold IRow
  rwa [List.length_take, Nat.min_eq_left hm]
theorem IRow.congr (h : IRow w g cap l) (hg : w'.heap[g]? = w.heap[g]?) : IRow w' g cap l := Row.congr h hg
/-- an owned row read -/
theorem IRow.read {S : Nat → Prop} (h : IRow w g cap l) (hB : S g) : IntsIn S w (.slice (some ⟨g, 0, none⟩) l.length cap) l :=
  ⟨_, g, 0, cap, rfl, Nat.le_trans h.cap_le.1 h.cap_le.2, fun _ => ⟨rfl, hB⟩, fun k hk => by rw [Nat.zero_add]; exact h.cell hk⟩
end

/-- rows of different element types lie in different blocks -/
theorem ownBlock_ne {w : World} {b b' : Nat} {e e' : TypeId} {size size' : Nat} {v v' : Value} {n n' : Nat} {xs xs' : List Value} (h : w.ownsRow b e size v n xs) (h' : w.ownsRow b' e' size' v' n' xs') (he : e ≠ e') :
    v.ownBlock = none ∨ v.ownBlock ≠ v'.ownBlock := by
  rcases h.2 with ⟨rfl, _⟩ | ⟨g, cap, cur, rfl, _, h1, _⟩
  · exact .inl rfl
  · right
    intro hh
    rcases h'.2 with ⟨rfl, _⟩ | ⟨g', cap', cur', rfl, _, h1', _⟩
    · simp [Value.ownBlock] at hh
    · simp [Value.ownBlock] at hh
      subst hh
      rw [h1] at h1'
      simp at h1'
      exact he h1'.2
theorem owns_form {w : World} {b : Nat} {e : TypeId} {size : Nat} {v : Value} {n : Nat} {xs : List Value} (h : w.ownsRow b e size v n xs) : ∃ a cap, v = .slice a n cap := by
  rcases h.2 with ⟨rfl, rfl⟩ | ⟨g, cap, cur, rfl, _⟩
  · exact ⟨none, 0, rfl⟩
  · exact ⟨_, _, rfl⟩
theorem news_one {W : World} {B : Nat} (hB : W.heap.size = B) (x : Value) (t : TypeId) : ∀ j u, [x][j]? = some u → (W.alloc (.cells #[x] t)).cell? ((⟨B, 0, none⟩ : Addr).add j) = some u := by
  subst hB; exact cell_one_new _ _ _
theorem news_two {W : World} {B : Nat} (hB : W.heap.size = B) (x y : Value) (t : TypeId) : ∀ j u, [x, y][j]? = some u → (W.alloc (.cells #[x, y] t)).cell? ((⟨B, 0, none⟩ : Addr).add j) = some u := by
  subst hB; exact cell_two_new _ _ _ _
theorem oneCell_int (x : Int) : ∀ u ∈ [Value.int .i64 x], u.oneCell' = true := by
  intro u hu; simp at hu; subst hu; rfl
theorem oneCell_slice (a : Option Addr) (n c : Nat) : ∀ u ∈ [Value.slice a n c], u.oneCell' = true := by
  intro u hu; simp at hu; subst hu; rfl
theorem oneCell_two (x y : Int) : ∀ u ∈ [Value.int .i64 x, Value.int .i64 y], u.oneCell' = true := by
  intro u hu; simp at hu; rcases hu with rfl | rfl <;> rfl

/-- 'make([]int, n)': the new block -/
theorem IRow.made (w : World) (n : Nat) (hn : n ≤ maxLen) : IRow (w.alloc (.cells (madeCells #[.int .i64 0] n) 3)) w.heap.size n (List.replicate n 0) := by
  have := World.ownsRow_lit (base := 0) (e := 3) (size := 1) w (madeCells #[.int .i64 0] n) n (Nat.zero_le _) hn (by rw [size_madeCells]; omega)
  rw [toList_madeCells_one, ints_replicate] at this
  unfold IRow
  rwa [List.length_replicate]
/-- 'make([]int, 0, n)' -/
theorem IRow.made0 (w : World) (n : Nat) (hn : n ≤ maxLen) : IRow (w.alloc (.cells (madeCells #[.int .i64 0] n) 3)) w.heap.size n [] := by
  have := (IRow.made w n hn).take (m := 0) (Nat.zero_le _)
  rwa [List.take_zero] at this

end Go.Proofs.Qxb6603026a
