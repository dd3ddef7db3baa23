/-
  graph.groups (function 31): what a round of its walk reads, and what it hands on.
-/
import Derived.Test.Qxb6603026aVisit
import Derived.Test.Qxb6603026aGAll
import Derived.Test.Qxb6603026aRead
namespace Go.Proofs.Qxb6603026a
open Go.RowKit
set_option linter.unusedSimpArgs false

/-- the bodies of a piece of code's outermost loops, in the text's order -/
def loopsOf : Code → List Code
  | .seq a b => loopsOf a ++ loopsOf b
  | .cond _ a b => loopsOf a ++ loopsOf b
  | .block _ c => loopsOf c
  | .loop c => [c]
  | .scope c => loopsOf c
  | _ => []
def lp (c : Code) (k : Nat) : Code := (loopsOf c).getD k .skip
def bodyOf (f : Func) : Code := f.body.getD .skip

/-- what a round of the walk hands on -/
def Rel2 (H r : Nat) (d : List (List Int)) (w0 : World) (bx : Obj) (m : Nat) (gv : Value) (w : World) : Prop :=
  ∃ (s : TS) (sv wv : Value), mu (grOf d) s < m ∧ GAll H (grOf d) w0 bx s w sv wv gv ∧ DfsIn (grOf d) r s ∧ ∀ v, v ≤ r → v ∈ s.pre

theorem row_le {d : List (List Int)} (hw : wordsOf d ≤ 131072) {i : Nat} (hi : i < d.length) : (row0 d i).length ≤ 131072 := by
  have h1 := wordsTo_mono d (j := i + 1) (k := d.length) (by omega)
  simp only [wordsTo] at h1
  unfold wordsOf at hw
  omega

/-- the top frame, read -/
theorem GAll.top {H : Nat} {g : Gr} {w0 : World} {bx : Obj} {s : TS} {w : World} {sv wv gv : Value} (h : GAll H g w0 bx s w sv wv gv) {ws : List (Nat × Nat)} {i k : Nat} (e : s.wlk = ws ++ [(i, k)]) :
    ∃ gw cap, wv = .slice (some ⟨gw, 0, none⟩) (ws.length + 1) cap ∧ H + 10 ≤ gw ∧ Row w 67 2 gw (ws.length + 1) cap (frs (ws ++ [(i, k)])) ∧
      w.cell? ⟨gw, ws.length * 2, none⟩ = some (.int .i64 (i : Int)) ∧ w.cell? ⟨gw, ws.length * 2 + 1, none⟩ = some (.int .i64 (k : Int)) := by
  have hw := h.mem.wlk
  rw [e] at hw
  have hl : (ws ++ [(i, k)]).length = ws.length + 1 := by simp
  rw [hl] at hw
  obtain ⟨gw, cap, rfl, hb, _⟩ := hw.form (by omega)
  have hr : Row w 67 2 gw (ws.length + 1) cap (frs (ws ++ [(i, k)])) := Row.of_owns hw
  obtain ⟨f1, f2⟩ := frs_last ws (i, k)
  exact ⟨gw, cap, rfl, hb, hr, by rw [hr.cell (by omega), f1], by rw [hr.cell (by omega), f2]⟩

theorem GAll.facts {H : Nat} {d : List (List Int)} {w0 : World} {bx : Obj} {s : TS} {w : World} {sv wv gv : Value} (h : GAll H (grOf d) w0 bx s w sv wv gv) {ws : List (Nat × Nat)} {i k : Nat} (e : s.wlk = ws ++ [(i, k)]) :
    i < d.length ∧ k ≤ (row0 d i).length ∧ ws.length < d.length ∧ s.pre.length ≤ d.length ∧ i ∈ s.stk := by
  have hi : (i, k) ∈ s.wlk := by rw [e]; simp
  have h1 := h.inv.wst _ hi
  have h2 := h.inv.lt i (h.inv.stk_pre h1.1)
  have h3 := h.inv.wlk_le
  have h4 := h.inv.pre_le
  rw [e] at h3
  simp at h3
  exact ⟨h2, h1.2, by have : (grOf d).n = d.length := rfl; omega, h4, h1.1⟩

theorem GAll.facts2 {H : Nat} {d : List (List Int)} {w0 : World} {bx : Obj} {s : TS} {w : World} {sv wv gv : Value} (h : GAll H (grOf d) w0 bx s w sv wv gv) {ws : List (Nat × Nat)} {i k p kp : Nat} (e : s.wlk = ws ++ [(p, kp)] ++ [(i, k)]) :
    p < d.length ∧ p ≠ i ∧ p ∈ s.stk := by
  have hp : (p, kp) ∈ s.wlk := by rw [e]; simp
  have h1 := h.inv.wst _ hp
  have h2 := h.inv.lt p (h.inv.stk_pre h1.1)
  refine ⟨h2, fun ep => ?_, h1.1⟩
  have := (h.inv.ws_lt e (p, kp) (by simp)).2
  simp only [ep] at this
  omega

/-- the graph's lists, read in the round's world -/
theorem deps_at {H : Nat} {d : List (List Int)} {w0 w : World} {a b dv : Value} (hd : RowsAt H w0 dv d) (hb : Below H w0 w) (hx : w.heap[H]? = some (.cells #[a, b, dv, .slice none 0 0, .int .i64 0, .slice none 0 0, .map none] 54)) {i : Nat} (hi : i < d.length) :
    ∃ bd off cap ai bi oi ci, dv = .slice (some ⟨bd, off, none⟩) d.length cap ∧ w.cell? ⟨H, 2, none⟩ = some (.slice (some ⟨bd, off, none⟩) d.length cap) ∧
      w.cell? ⟨bd, off + i, none⟩ = some (.slice ai (row0 d i).length ci) ∧ (0 < (row0 d i).length → ai = some ⟨bi, oi, none⟩) ∧
      ∀ k, k < (row0 d i).length → w.cell? ⟨bi, oi + k, none⟩ = some (.int .i64 (at0 (row0 d i) k)) := by
  have hd' := RowsAt.below hd hb
  obtain ⟨a', bd, off, cap, vs, rfl, hmax, ha, hc⟩ := hd'
  obtain ⟨rfl, hlt⟩ := ha (by omega)
  obtain ⟨h1, ai, bi, oi, ci, h2, h3, h4, h5⟩ := hc i hi
  refine ⟨bd, off, cap, ai, bi, oi, ci, rfl, ?_, ?_, fun hl => (h4 hl).1, h5⟩
  · simp [World.cell?, hx]
  · rw [h1, h2]

end Go.Proofs.Qxb6603026a
