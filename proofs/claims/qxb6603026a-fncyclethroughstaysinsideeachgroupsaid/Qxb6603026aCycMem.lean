/-
  graph.cycleThrough (function 32): its queue (a slice that is eaten at its head and grows at its end) and its two maps. 
-/
import Derived.Test.Qxb6603026aBase
import Derived.Test.Qxb6603026aBfsPure
import Derived.ArgAppend
import Derived.Maps.Own
import Derived.Maps.OwnOps
import Derived.Maps.OwnSet
import Derived.Maps.Views
import Derived.WalkSpells
namespace Go.Proofs.Qxb6603026a
open Go.RowKit Go.Maps
set_option linter.unusedSimpArgs false
set_option linter.unusedVariables false

/-- a row with room has one cell more -/
theorem Row.more {w : World} {e : TypeId} {g n cap : Nat} {xs : List Value} (h : Row w e 1 g n cap xs) (hn : n < cap) : ∃ u, Row w e 1 g (n + 1) cap (xs ++ [u]) := by
  have hl := h.1
  rcases h.2 with ⟨h', _⟩ | ⟨g', cap', cur, h', hb, hgg, h1, h2, h3, h4⟩
  · cases h'
  · cases h'
    simp only [Nat.mul_one] at h3 h4 hl
    have hlt : n < cur.toList.length := by simp; omega
    refine ⟨cur.toList[n], ⟨by simp; omega, .inr ⟨g, cap, cur, rfl, hb, hgg, by omega, h2, by omega, ?_⟩⟩⟩
    rw [Nat.mul_one, List.take_succ_eq_append_getElem hlt, h4]

theorem Row.push {w : World} {e : TypeId} {g n cap : Nat} {xs : List Value} (h : Row w e 1 g n cap xs) (hn : n < cap) (v : Value) : Row (w.setCell ⟨g, n, none⟩ v) e 1 g (n + 1) cap (xs ++ [v]) := by
  have hl := h.1
  obtain ⟨u, hu⟩ := h.more hn
  have := hu.set n v
  rw [List.set_append_right _ _ (by omega)] at this
  simpa [show n - xs.length = 0 by omega] using this

/-- an append to a slice that starts inside an owned row -/
theorem wpList_append_seg (w : World) {ops : Array Oper} {rest : List Oper} {o : Oper} {a : Act} {Q : Exit → Act → World → Prop} (hgd : o.guard = none) (s x : Operand)
    (hop : o.op = Op.call { callee := Callee.builtin Builtin.append, args := #[s, x], argTypes := #[26, 26] }) (gb off c0 n : Nat) (full : List Value) (hr : Row w 3 1 gb full.length c0 full) (ho : off + n = full.length)
    (hs : a.eval s = .slice (some ⟨gb, off, none⟩) n (c0 - off)) (ad : Addr) (j : Int) (hx : a.eval x = .slice (some ad) 1 1) (hc : ∀ k u, [Value.int .i64 j][k]? = some u → w.cell? (ad.add k) = some u) (hb : full.length ≤ 131072)
    (hK : ∀ g' off' c' full' w', Row w' 3 1 g' full'.length c' full' → off' + (n + 1) = full'.length → full'.drop off' = full.drop off ++ [.int .i64 j] → w.grownBy w' (some gb) → (g' = gb ∨ w.heap.size ≤ g') →
      wpList Try.prog ops Q rest (a.put o.dst (.slice (some ⟨g', off', none⟩) (n + 1) (c' - off'))) w') : wpList Try.prog ops Q (o :: rest) a w := by
  obtain ⟨i3, p1, p2, p3, p4⟩ := info_parts Try.info3
  have hcap := hr.cap_le
  have hlo : (full.drop off).length = n * 1 := by simp; omega
  refine wpList_append_arg w hgd s x 26 hop 3 i3 (.int .i64 0) 1 8 Try.underlying26 p1 p2 p3 p4 rfl (by omega) gb off n (c0 - off) (full.drop off) hs hlo ?_ ad 1 1 [.int .i64 j] hx rfl hc (oneCell_int _) ?_ (by unfold maxLen; omega) (by omega) ?_ ?_
  · intro k u hk
    rw [List.getElem?_drop] at hk
    have hlt : off + k < full.length := (List.getElem?_eq_some_iff.1 hk).1
    rw [hr.cell (by omega)]; exact hk
  · intro hroom k hk
    have : k = 0 := by simpa using hk
    subst this
    obtain ⟨u, hu⟩ := hr.more (by omega)
    have e : off + n * 1 + 0 = full.length := by omega
    rw [e]
    refine ⟨?_, hr.frozen _⟩
    obtain ⟨y, hy⟩ := hu.cellEx (j := full.length) (by omega)
    rw [hy]; rfl
  · intro hroom
    have e : off + n * 1 = full.length := by omega
    rw [e]
    have hp := hr.push (by omega) (.int .i64 j)
    have hg := (World.ownsRow.stored hr full.length (.int .i64 j)).2
    refine hK gb off c0 (full ++ [.int .i64 j]) _ ?_ (by simp; omega) ?_ hg (.inl rfl)
    · have hl : (full ++ [Value.int .i64 j]).length = full.length + 1 := by simp
      rw [hl]; exact hp
    · rw [List.drop_append_of_le_length (by omega)]
  · intro hfull v' w' hown hgrow
    obtain ⟨g, cap, rfl, hbg, hlt⟩ := hown.form (by omega)
    have hR := Row.of_owns hown
    refine hK g 0 cap (full.drop off ++ [.int .i64 j]) w' ?_ ?_ (by simp) ⟨hgrow.os, hgrow.tape, hgrow.output, hgrow.size, fun k hk _ => hgrow.block k hk (by simp)⟩ (.inr hbg)
    · have hl : (full.drop off ++ [Value.int .i64 j]).length = n + 1 := by simp; omega
      rw [hl]; exact hR
    · simp; omega

/-! ### the maps -/
theorem lawI : Keyed Try.prog 3 := int_keyed Try.underlying3
theorem zeroI (w : World) : (zeroValue 3).run Try.prog w = .ok (.int .i64 0) w := by kernel_rfl
theorem zeroB (w : World) : (zeroValue 4).run Try.prog w = .ok (.bool false) w := by kernel_rfl
theorem makeM (w : World) (n : Nat) : (Instr.makeMap 70 (some (.int .i64 (n : Int)))).run Try.prog w = .ok (.map (some w.heap.size)) (w.alloc (.map #[] 0)) := by
  have h := Try.underlying70
  simp [Instr.makeMap, run_underlying h, asInt]
  rfl

end Go.Proofs.Qxb6603026a
