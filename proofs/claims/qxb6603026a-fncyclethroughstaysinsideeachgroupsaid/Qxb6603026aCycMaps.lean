/-
  graph.cycleThrough (function 32): its two maps.
-/
import Derived.Test.Qxb6603026aCycMem
namespace Go.Proofs.Qxb6603026a
open Go.RowKit Go.Maps
set_option linter.unusedSimpArgs false
set_option linter.unusedVariables false

/-- a step as a key -/
def kx (x : Nat) : Lit := .int .i64 (x : Int)
theorem kx_key (x : Nat) : WideAt.IsKeyLit (kx x) := trivial
theorem kx_ne {x y : Nat} (h : x ≠ y) : kx x ≠ kx y := fun e => h (by unfold kx at e; injection e with _ e; omega)
theorem kx_of {x : Nat} (hx : x ≤ 65536) : keyOf Try.prog 3 (.int .i64 (x : Int)) = some (kx x) := keyOf_int_mk Try.underlying3 (WalkArith.wf_i64 (by omega))

/-- block b is a map[int]bool that says true of the steps in S alone -/
def SetMap (w : World) (b : Nat) (S : List Nat) : Prop :=
  ∃ (n : Nat) (D : DataW Unit), w.ownsMap Try.prog 3 (plainElem Try.prog 4) b n D ∧ n ≤ S.length ∧ ∀ x : Nat, D.atKey (kx x) (.lit (.bool false)) = .lit (.bool (decide (x ∈ S)))
/-- block b is a map[int]int with the keys q; at each but f it holds cm -/
def CameMap (w : World) (b : Nat) (f : Nat) (q : List Nat) (cm : Nat → Nat) : Prop :=
  ∃ (n : Nat) (D : DataW Unit), w.ownsMap Try.prog 3 (plainElem Try.prog 3) b n D ∧ n ≤ q.length ∧ (∀ x : Nat, Maps.has D (kx x) = decide (x ∈ q)) ∧ ∀ x : Nat, x ∈ q → x ≠ f → D.atKey (kx x) (.lit (.int .i64 0)) = .lit (.int .i64 (cm x : Int))

theorem SetMap.made (w : World) : SetMap (w.alloc (.map #[] 0)) w.heap.size [] := ⟨0, .map [], World.ownsMap_made w _ _ _, Nat.le_refl _, fun x => by simp [DataW.atKey]⟩
theorem SetMap.lt {w : World} {b : Nat} {S : List Nat} (h : SetMap w b S) : b < w.heap.size := by obtain ⟨n, D, h, _⟩ := h; exact h.lt
theorem SetMap.kept {w w' : World} {b : Nat} {S : List Nat} {row : Option Nat} (h : SetMap w b S) (hg : w.grownBy w' row) (hne : some b ≠ row) : SetMap w' b S := by
  obtain ⟨n, D, h1, h2⟩ := h; exact ⟨n, D, h1.kept hg hne, h2⟩
theorem SetMap.alloc {w : World} {b : Nat} {S : List Nat} (h : SetMap w b S) (o : Obj) : SetMap (w.alloc o) b S := h.kept (World.grownBy_alloc w o none) (by simp)
theorem CameMap.lt {w : World} {b f : Nat} {q : List Nat} {cm : Nat → Nat} (h : CameMap w b f q cm) : b < w.heap.size := by obtain ⟨n, D, h, _⟩ := h; exact h.lt
theorem CameMap.kept {w w' : World} {b f : Nat} {q : List Nat} {cm : Nat → Nat} {row : Option Nat} (h : CameMap w b f q cm) (hg : w.grownBy w' row) (hne : some b ≠ row) : CameMap w' b f q cm := by
  obtain ⟨n, D, h1, h2⟩ := h; exact ⟨n, D, h1.kept hg hne, h2⟩
theorem CameMap.alloc {w : World} {b f : Nat} {q : List Nat} {cm : Nat → Nat} (h : CameMap w b f q cm) (o : Obj) : CameMap (w.alloc o) b f q cm := h.kept (World.grownBy_alloc w o none) (by simp)

/-- 'inGroup[j] = true' -/
theorem SetMap.add {w : World} {b : Nat} {S : List Nat} (h : SetMap w b S) {x : Nat} (hx : x ≤ 65536) (hS : S.length ≤ 65536) :
    ∃ w', (Instr.mapUpdate 70 (.map (some b)) (.int .i64 (x : Int)) (.bool true)).run Try.prog w = .ok () w' ∧ SetMap w' b (S ++ [x]) ∧ w.grownBy w' (some b) := by
  obtain ⟨n, D, h1, h2, h3⟩ := h
  obtain ⟨w', hr, ho, hg⟩ := h1.update lawI Try.underlying70 (by unfold maxLen; omega) (kx_of hx) (plainElem_bool Try.underlying4 true)
  refine ⟨w', hr, ⟨n + 1, _, ho, by simp; omega, fun y => ?_⟩, hg⟩
  by_cases e : y = x
  · subst e; rw [atKey_put_same h1.isMap (kx_key y)]; simp
  · rw [atKey_put_other (kx_ne e), h3]; simp [e]
/-- 'inGroup[j]' -/
theorem SetMap.look {w : World} {b : Nat} {S : List Nat} (h : SetMap w b S) {x : Nat} (hx : x ≤ 65536) : (Instr.lookup 70 (.map (some b)) (.int .i64 (x : Int)) false).run Try.prog w = .ok (.bool (decide (x ∈ S))) w := by
  obtain ⟨n, D, h1, h2, h3⟩ := h
  obtain ⟨v, ps, hr, hv⟩ := h1.lookup lawI Try.underlying70 (zeroB w) (plainElem_bool Try.underlying4 false) (kx_of hx)
  rw [h3] at hv
  rw [hr]
  have : v = .bool (decide (x ∈ S)) := by
    unfold plainElem at hv
    rw [Try.underlying4] at hv
    cases v <;> simp at hv
    rw [hv.1]
  rw [this]
/-- 'came[j] = i' -/
theorem CameMap.add {w : World} {b f : Nat} {q : List Nat} {cm : Nat → Nat} (h : CameMap w b f q cm) {x i : Nat} (hx : x ≤ 65536) (hi : i ≤ 65536) (hq : q.length ≤ 65536) (hxq : x ∉ q) :
    ∃ w', (Instr.mapUpdate 71 (.map (some b)) (.int .i64 (x : Int)) (.int .i64 (i : Int))).run Try.prog w = .ok () w' ∧ CameMap w' b f (q ++ [x]) (upd cm x i) ∧ w.grownBy w' (some b) := by
  obtain ⟨n, D, h1, h2, h3, h4⟩ := h
  obtain ⟨w', hr, ho, hg⟩ := h1.update lawI Try.underlying71 (by unfold maxLen; omega) (kx_of hx) (plainElem_int Try.underlying3 (WalkArith.wf_i64 (n := (i : Int)) (by omega)))
  refine ⟨w', hr, ⟨n + 1, _, ho, by simp; omega, fun y => ?_, fun y hy hyf => ?_⟩, hg⟩
  · by_cases e : y = x
    · subst e; rw [has_put_same h1.isMap (kx_key y)]; simp
    · rw [has_put_other (kx_ne e), h3]; simp [e]
  · by_cases e : y = x
    · subst e; rw [atKey_put_same h1.isMap (kx_key y), upd_self]
    · rw [atKey_put_other (kx_ne e), upd_other e]
      exact h4 y (by simpa [e] using hy) hyf
/-- 'map[int]int{first: -1}' -/
theorem CameMap.first (w : World) {f : Nat} (hf : f ≤ 65536) (cm : Nat → Nat) :
    ∃ w', (Instr.mapUpdate 71 (.map (some w.heap.size)) (.int .i64 (f : Int)) (.int .i64 (-1))).run Try.prog (w.alloc (.map #[] 0)) = .ok () w' ∧ CameMap w' w.heap.size f [f] cm ∧ (w.alloc (.map #[] 0)).grownBy w' (some w.heap.size) := by
  have h1 := World.ownsMap_made (H := Unit) w Try.prog 3 (plainElem Try.prog 3)
  obtain ⟨w', hr, ho, hg⟩ := h1.update lawI Try.underlying71 (by unfold maxLen; omega) (kx_of hf) (plainElem_int Try.underlying3 (a := -1) (by decide))
  refine ⟨w', hr, ⟨0 + 1, _, ho, by simp, fun y => ?_, fun y hy hyf => ?_⟩, hg⟩
  · by_cases e : y = f
    · subst e; rw [has_put_same h1.isMap (kx_key y)]; simp
    · rw [has_put_other (kx_ne e)]; simp [e, Maps.has]
  · simp at hy; exact absurd hy hyf
/-- '_, ok := came[j]' -/
theorem CameMap.ok {w : World} {b f : Nat} {q : List Nat} {cm : Nat → Nat} (h : CameMap w b f q cm) {x : Nat} (hx : x ≤ 65536) : ∃ c : Int, (Instr.lookup 71 (.map (some b)) (.int .i64 (x : Int)) true).run Try.prog w = .ok (.tuple #[.int .i64 c, .bool (decide (x ∈ q))]) w := by
  obtain ⟨n, D, h1, h2, h3, h4⟩ := h
  obtain ⟨v, ps, hr, hv⟩ := h1.look_ok lawI Try.underlying71 (zeroI w) (plainElem_int Try.underlying3 (a := 0) (by decide)) (kx_of hx)
  obtain ⟨c, rfl, _, _⟩ := plainElem_int_inv Try.underlying3 hv
  rw [h3] at hr
  exact ⟨c, hr⟩
/-- 'came[k]' -/
theorem CameMap.look {w : World} {b f : Nat} {q : List Nat} {cm : Nat → Nat} (h : CameMap w b f q cm) {x : Nat} (hx : x ≤ 65536) (hq : x ∈ q) (hf : x ≠ f) : (Instr.lookup 71 (.map (some b)) (.int .i64 (x : Int)) false).run Try.prog w = .ok (.int .i64 (cm x : Int)) w := by
  obtain ⟨n, D, h1, h2, h3, h4⟩ := h
  obtain ⟨c, hr, hc, _⟩ := h1.lookup_int lawI Try.underlying71 Try.underlying3 (zeroI w) (kx_of hx)
  rw [h4 x hq hf] at hc
  have e : (cm x : Int) = c := by injection hc with hc; injection hc
  rw [hr, e]

end Go.Proofs.Qxb6603026a
