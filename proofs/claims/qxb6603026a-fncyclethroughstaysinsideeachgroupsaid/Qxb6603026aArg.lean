/-
  The argument of the three laws: a slice of slices of ints, read off the row's own reading.
-/
import Derived.Test.Qxb6603026aBase
import Derived.Deep.Matrix
import Derived.ProofKit
namespace Go.Proofs.Qxb6603026a
open Go.ChangeShapes Go.WideShapes Go.ChangeAt Go.RowKit

theorem Try.own : ownKnob Try.prog.godebug = none := by kernel_rfl
theorem Try.laidOut : laidOutB Try.prog = true := by kernel_rfl
theorem Try.cells26 : Try.prog.cellsOf 26 = 1 := by kernel_rfl
theorem Try.cells3 : Try.prog.cellsOf 3 = 1 := by kernel_rfl

theorem getD_take {l : List Int} {n k : Nat} (hk : k < n) : at0 (l.take n) k = l.getD k 0 := by
  simp [at0, hk]

/-- what came in is a slice of slices of ints, below the heap's size -/
theorem arg_rows {H : Type} {enc : TypeId × Value → H} {W : World} {a : Option Addr} {len cap : Nat} {d : DataW H} {ps : List MemPlace}
    (h : DataW.Trod enc Try.prog W 0 (fun _ => true) true 22 (.slice a len cap) d ps) : ∃ dd : List (List Int), RowsAt W.heap.size W (.slice a len cap) dd := by
  obtain ⟨fuel, hf⟩ := h
  rcases Go.Deep.open_int_rows Try.underlying22 Try.underlying26 Try.underlying3 Try.cells26 Try.cells3 hf with ⟨hcs, _⟩ | ⟨a', l', c', A, L, C, Z, hcs, _, hl, hm, _, hc⟩
  · simp [Value.cells] at hcs
    obtain ⟨rfl, rfl, rfl⟩ := hcs
    exact ⟨[], none, 0, 0, 0, fun _ => .slice none 0 0, rfl, by simp, fun h => by simp at h, fun i hi => by simp at hi⟩
  · simp [Value.cells] at hcs
    obtain ⟨rfl, rfl, rfl⟩ := hcs
    obtain ⟨b, off, spot⟩ := a'
    refine ⟨(List.range len).map fun r => (Z r).take (L r), some ⟨b, off, spot⟩, b, off, cap, fun i => .slice (A i) (L i) (C i), by simp, by simp; omega, fun hl0 => ?_, fun i hi => ?_⟩
    · simp at hl0
      have h0 := (hc 0 (by omega)).1
      have hs : spot = none := by simpa [Addr.add] using World.cell?_spot h0
      subst hs
      rw [add_plain] at h0
      exact ⟨rfl, World.block_lt_of_cell? W ⟨b, off + 0, none⟩ h0⟩
    · simp at hi
      obtain ⟨h0, h1, h2, h3, _, h5, h6⟩ := hc i (by omega)
      have hs : spot = none := by simpa [Addr.add] using World.cell?_spot (hc 0 (by omega)).1
      subst hs
      rw [add_plain] at h0
      have hr : row0 ((List.range len).map fun r => (Z r).take (L r)) i = (Z i).take (L i) := by simp [row0, hi]
      have hlen : ((Z i).take (L i)).length = L i := by rw [List.length_take]; omega
      refine ⟨h0, ?_⟩
      rw [hr]
      cases hA : A i with
      | none =>
        have := h5 hA
        have hL : L i = 0 := by omega
        exact ⟨none, 0, 0, C i, by show Value.slice (A i) (L i) (C i) = _; rw [hlen, hA], by rw [hlen]; omega, fun hh => by rw [hlen] at hh; omega, fun k hk => by rw [hlen] at hk; omega⟩
      | some x =>
        obtain ⟨bx, ox, sx⟩ := x
        obtain ⟨_, h7⟩ := h6 _ hA
        refine ⟨some ⟨bx, ox, sx⟩, bx, ox, C i, by show Value.slice (A i) (L i) (C i) = _; rw [hlen, hA], by rw [hlen]; omega, fun hh => ?_, fun k hk => ?_⟩
        · rw [hlen] at hh
          have hx := h7 0 (by omega)
          have hsx : sx = none := by simpa [Addr.add] using World.cell?_spot hx
          subst hsx
          rw [add_plain] at hx
          exact ⟨rfl, World.block_lt_of_cell? W ⟨bx, ox + 0, none⟩ hx⟩
        · rw [hlen] at hk
          have hx := h7 k (by omega)
          have hsx : sx = none := by simpa [Addr.add] using World.cell?_spot (h7 0 (by omega))
          subst hsx
          rw [add_plain] at hx
          rw [hx, getD_take hk]

end Go.Proofs.Qxb6603026a
