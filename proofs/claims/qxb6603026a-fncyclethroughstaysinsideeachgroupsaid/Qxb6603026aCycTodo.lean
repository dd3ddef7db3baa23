/-
  graph.cycleThrough (function 32): the queue 'todo': what is still to do of the steps met.
-/
import Derived.Test.Qxb6603026aCycMaps
import Derived.Test.Qxb6603026aCycPure
namespace Go.Proofs.Qxb6603026a
open Go.RowKit Go.Maps
set_option linter.unusedSimpArgs false
set_option linter.unusedVariables false

/-- the slice tv reads as xs: a stretch of an owned row up to the row's end; or it is empty and has no room -/
def Todo (w : World) (tv : Value) (gb : Nat) (xs : List Nat) (L : Nat) : Prop :=
  ∃ off cp, tv = .slice (some ⟨gb, off, none⟩) xs.length cp ∧ xs.length ≤ L ∧
    ((∃ (c0 : Nat) (F : List Nat), Row w 3 1 gb F.length c0 (ints (ns F)) ∧ off + xs.length = F.length ∧ cp = c0 - off ∧ F.drop off = xs ∧ F.length ≤ L) ∨ (xs = [] ∧ cp = 0))

theorem Todo.one {w : World} {B : Nat} (hB : w.heap.size = B) (f : Nat) : Todo (w.alloc (.cells #[.int .i64 (f : Int)] 3)) (.slice (some ⟨B, 0, none⟩) 1 1) B [f] 1 := by
  subst hB
  refine ⟨0, 1, rfl, Nat.le_refl _, .inl ⟨1, [f], ?_, rfl, rfl, rfl, Nat.le_refl _⟩⟩
  exact World.ownsRow_lit (base := 0) (e := 3) (size := 1) w #[.int .i64 (f : Int)] 1 (Nat.zero_le _) (by unfold maxLen; omega) rfl
theorem Todo.kept {w w' : World} {tv : Value} {gb L : Nat} {xs : List Nat} {row : Option Nat} (h : Todo w tv gb xs L) (hg : w.grownBy w' row) (hne : some gb ≠ row) : Todo w' tv gb xs L := by
  obtain ⟨off, cp, h1, h2, h3⟩ := h
  refine ⟨off, cp, h1, h2, ?_⟩
  rcases h3 with ⟨c0, F, hr, rest⟩ | h3
  · exact .inl ⟨c0, F, hr.grown hg hne, rest⟩
  · exact .inr h3
theorem Todo.alloc {w : World} {tv : Value} {gb L : Nat} {xs : List Nat} (h : Todo w tv gb xs L) (o : Obj) : Todo (w.alloc o) tv gb xs L := h.kept (World.grownBy_alloc w o none) (by simp)
/-- its first, and what is left behind it -/
theorem Todo.cons {w : World} {tv : Value} {gb L x : Nat} {xs : List Nat} (h : Todo w tv gb (x :: xs) L) : ∃ off c0, tv = .slice (some ⟨gb, off, none⟩) (xs.length + 1) (c0 - off) ∧ off + (xs.length + 1) ≤ c0 ∧ c0 ≤ maxLen ∧ w.cell? ⟨gb, off, none⟩ = some (.int .i64 (x : Int)) ∧
    ((c0 - off = 1 ∧ Todo w (.slice (some ⟨gb, off, none⟩) xs.length 0) gb xs L) ∨ (c0 - off ≠ 1 ∧ Todo w (.slice (some ⟨gb, off + 1, none⟩) xs.length (c0 - off - 1)) gb xs L)) := by
  obtain ⟨off, cp, h1, h2, h3⟩ := h
  rcases h3 with ⟨c0, F, hr, e1, rfl, e2, e3⟩ | h3
  · have hc := hr.cap_le
    simp only [List.length_cons] at e1 h1 h2
    refine ⟨off, c0, h1, by omega, hc.2, ?_, ?_⟩
    · have hlt : off < F.length := by omega
      rw [hr.cell (by omega), ints_get (by rw [ns_length]; exact hlt), at0_nd0 hlt]
      have : nd0 F off = x := by
        have h9 : (F.drop off)[0]? = some x := by rw [e2]; rfl
        rw [List.getElem?_drop, Nat.add_zero] at h9
        simp [nd0, h9]
      rw [this]
    · by_cases h9 : c0 - off = 1
      · refine .inl ⟨h9, off, 0, rfl, by omega, .inr ⟨List.eq_nil_of_length_eq_zero (by omega), rfl⟩⟩
      · refine .inr ⟨h9, off + 1, c0 - off - 1, rfl, by omega, .inl ⟨c0, F, hr, by omega, by omega, ?_, e3⟩⟩
        rw [← List.drop_drop, e2]; rfl
  · cases h3.1

/-- an append to a slice that starts inside an owned row of steps -/
theorem wpList_append_steps (w : World) {ops : Array Oper} {rest : List Oper} {o : Oper} {a : Act} {Q : Exit → Act → World → Prop} (hgd : o.guard = none) (s x : Operand)
    (hop : o.op = Op.call { callee := Callee.builtin Builtin.append, args := #[s, x], argTypes := #[26, 26] }) (gb off c0 n : Nat) (F : List Nat) (hr : Row w 3 1 gb F.length c0 (ints (ns F))) (ho : off + n = F.length)
    (hs : a.eval s = .slice (some ⟨gb, off, none⟩) n (c0 - off)) (ad : Addr) (j : Nat) (hx : a.eval x = .slice (some ad) 1 1) (hc : ∀ k u, [Value.int .i64 (j : Int)][k]? = some u → w.cell? (ad.add k) = some u) (hb : F.length ≤ 131072)
    (hK : ∀ g' off' c' F' w', Row w' 3 1 g' F'.length c' (ints (ns F')) → off' + (n + 1) = F'.length → F'.drop off' = F.drop off ++ [j] → F'.length ≤ F.length + 1 → w.grownBy w' (some gb) → (g' = gb ∨ w.heap.size ≤ g') →
      wpList Try.prog ops Q rest (a.put o.dst (.slice (some ⟨g', off', none⟩) (n + 1) (c' - off'))) w') : wpList Try.prog ops Q (o :: rest) a w := by
  obtain ⟨i3, p1, p2, p3, p4⟩ := info_parts Try.info3
  have hcap := hr.cap_le
  have hlF : (ints (ns F)).length = F.length := by rw [ints_length, ns_length]
  have hlo : ((ints (ns F)).drop off).length = n * 1 := by simp [hlF]; omega
  refine wpList_append_arg w hgd s x 26 hop 3 i3 (.int .i64 0) 1 8 Try.underlying26 p1 p2 p3 p4 rfl (by omega) gb off n (c0 - off) ((ints (ns F)).drop off) hs hlo ?_ ad 1 1 [.int .i64 (j : Int)] hx rfl hc (oneCell_int _) ?_ (by unfold maxLen; omega) (by omega) ?_ ?_
  · intro k u hk
    rw [List.getElem?_drop] at hk
    have hlt : off + k < (ints (ns F)).length := (List.getElem?_eq_some_iff.1 hk).1
    rw [hr.cell (by omega)]; exact hk
  · intro hroom k hk
    have : k = 0 := by simpa using hk
    subst this
    obtain ⟨u, hu⟩ := hr.more (by omega)
    have e : off + n * 1 + 0 = F.length := by omega
    rw [e]
    refine ⟨?_, hr.frozen _⟩
    obtain ⟨y, hy⟩ := hu.cellEx (j := F.length) (by omega)
    rw [hy]; rfl
  · intro hroom
    have e : off + n * 1 = F.length := by omega
    rw [e]
    have hp := hr.push (by omega) (.int .i64 (j : Int))
    have hg := (World.ownsRow.stored hr F.length (.int .i64 (j : Int))).2
    refine hK gb off c0 (F ++ [j]) _ ?_ (by simp; omega) ?_ (by simp) hg (.inl rfl)
    · have hl : (F ++ [j]).length = F.length + 1 := by simp
      have e2 : ints (ns (F ++ [j])) = ints (ns F) ++ [.int .i64 (j : Int)] := by simp [ints, ns]
      rw [hl, e2]; exact hp
    · rw [List.drop_append_of_le_length (by omega)]
  · intro hfull v' w' hown hgrow
    obtain ⟨g, cap, rfl, hbg, hlt⟩ := hown.form (by omega)
    have hR := Row.of_owns hown
    refine hK g 0 cap (F.drop off ++ [j]) w' ?_ ?_ (by simp) (by simp) ⟨hgrow.os, hgrow.tape, hgrow.output, hgrow.size, fun k hk _ => hgrow.block k hk (by simp)⟩ (.inr hbg)
    · have hl : (F.drop off ++ [j]).length = n + 1 := by simp; omega
      have e2 : ints (ns (F.drop off ++ [j])) = (ints (ns F)).drop off ++ [.int .i64 (j : Int)] := by simp [ints, ns, List.map_drop]
      rw [hl, e2]; exact hR
    · simp; omega

/-- 'todo = append(todo, j)' -/
theorem wpList_append_todo (w : World) {ops : Array Oper} {rest : List Oper} {o : Oper} {a : Act} {Q : Exit → Act → World → Prop} (hgd : o.guard = none) (s x : Operand)
    (hop : o.op = Op.call { callee := Callee.builtin Builtin.append, args := #[s, x], argTypes := #[26, 26] }) (tv : Value) (gb : Nat) (xs : List Nat) (L : Nat) (ht : Todo w tv gb xs L) (hs : a.eval s = tv) (ad : Addr) (j : Nat)
    (hx : a.eval x = .slice (some ad) 1 1) (hc : ∀ k u, [Value.int .i64 (j : Int)][k]? = some u → w.cell? (ad.add k) = some u) (hL : L ≤ 65536)
    (hK : ∀ tv' g' w', Todo w' tv' g' (xs ++ [j]) (L + 1) → w.grownBy w' (some gb) → (g' = gb ∨ w.heap.size ≤ g') → wpList Try.prog ops Q rest (a.put o.dst tv') w') : wpList Try.prog ops Q (o :: rest) a w := by
  obtain ⟨off, cp, h1, h2, h3⟩ := ht
  rcases h3 with ⟨c0, F, hr, e1, rfl, e2, e3⟩ | ⟨rfl, rfl⟩
  · refine wpList_append_steps w hgd s x hop gb off c0 xs.length F hr e1 (by rw [hs, h1]) ad j hx hc (by omega) ?_
    intro g' off' c' F' w' hR ho hd hl hg hat
    rw [e2] at hd
    exact hK _ g' w' ⟨off', c' - off', by simp, by simp; omega, .inl ⟨c', F', hR, by simp; omega, rfl, hd, by omega⟩⟩ hg hat
  · obtain ⟨i3, p1, p2, p3, p4⟩ := info_parts Try.info3
    refine wpList_append_grows w hgd s x 26 hop 3 i3 (.int .i64 0) 1 8 Try.underlying26 p1 p2 p3 p4 rfl (by omega) (some ⟨gb, off, none⟩) 0 0 [] (by rw [hs, h1]; rfl) (fun h => by cases h) rfl (fun b hb k u hk => by cases hk) ad 1 1 [.int .i64 (j : Int)] hx rfl hc (oneCell_int _) (by omega) (by unfold maxLen; omega) (by omega) ?_
    intro v' w' hown hgrow
    obtain ⟨g, cap, rfl, hbg, hlt⟩ := hown.form (by omega)
    have hR := Row.of_owns hown
    refine hK _ g w' ⟨0, cap, by simp, by simp, .inl ⟨cap, [j], ?_, rfl, rfl, rfl, by simp⟩⟩ ⟨hgrow.os, hgrow.tape, hgrow.output, hgrow.size, fun k hk _ => hgrow.block k hk (by simp)⟩ (.inr hbg)
    exact hR

end Go.Proofs.Qxb6603026a
