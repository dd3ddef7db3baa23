/-
  The closure visit of graph.groups (function 37): its contract.
-/
import Derived.Test.Qxb6603026aBase
import Derived.Test.Qxb6603026aGMem
import Derived.RegionTactic
import Derived.BigRegion
import Derived.Deep.RegionHeld3
namespace Go.Proofs.Qxb6603026a
open Go.RowKit

def Visited (H n : Nat) (s : TS) (i : Nat) (w : World) (sv wv : Value) (e : Ending) (w' : World) : Prop :=
  e = .returned (.tuple #[]) ∧ ∃ sv' wv', GMem H n (s.visit i) w' sv' wv' ∧ GFr H (SW sv wv) w w' ∧ (sv'.ownBlock = sv.ownBlock ∨ ∃ g, sv'.ownBlock = some g ∧ w.heap.size ≤ g)

theorem visited_end {H n i g cap g' cap' : Nat} {s : TS} {w w' : World} {sv wv : Value} (hnew : i ∉ s.pre)
    (hc : CMem H n (upd s.ord i (s.pre.length + 1)) (upd s.low i (s.pre.length + 1)) (upd (fun v => decide (v ∈ s.stk)) i true) (s.pre.length + 1) (.slice (some ⟨g, 0, none⟩) (s.stk.length + 1) cap) (.slice (some ⟨g', 0, none⟩) (s.wlk.length + 1) cap') w')
    (hs : w'.ownsRow (H + 10) 3 1 (.slice (some ⟨g, 0, none⟩) (s.stk.length + 1) cap) (s.stk.length + 1) (ints (ns s.stk) ++ [.int .i64 (i : Int)]))
    (hw : w'.ownsRow (H + 10) 67 2 (.slice (some ⟨g', 0, none⟩) (s.wlk.length + 1) cap') (s.wlk.length + 1) (frs s.wlk ++ [.int .i64 (i : Int), .int .i64 0]))
    (hf : GFr H (SW sv wv) w w') (hat : sv.ownBlock = some g ∨ w.heap.size ≤ g) : Visited H n s i w sv wv (.returned (.tuple #[])) w' := by
  refine ⟨rfl, .slice (some ⟨g, 0, none⟩) (s.stk.length + 1) cap, .slice (some ⟨g', 0, none⟩) (s.wlk.length + 1) cap', ⟨?_, ?_, ?_⟩, hf, ?_⟩
  · have hl : (s.visit i).pre.length = s.pre.length + 1 := by simp [TS.visit]
    rw [hl]
    refine hc.congr (fun v _ => ?_) (fun v _ => rfl) (fun v _ => ?_)
    · by_cases e : v = i
      · subst e; rw [upd_self]; exact (ordOf_append_new hnew).symm
      · rw [upd_other e]; exact (ordOf_append_old e).symm
    · by_cases e : v = i
      · subst e; rw [upd_self]; simp [TS.visit]
      · rw [upd_other e]; simp [TS.visit, e]
  · have hl : (s.visit i).stk.length = s.stk.length + 1 := by simp [TS.visit]
    have he : ints (ns (s.visit i).stk) = ints (ns s.stk) ++ [.int .i64 (i : Int)] := by simp [TS.visit, ns, ints]
    rw [hl, he]; exact hs
  · have hl : (s.visit i).wlk.length = s.wlk.length + 1 := by simp [TS.visit]
    have he : frs (s.visit i).wlk = frs s.wlk ++ [.int .i64 (i : Int), .int .i64 0] := by simp [TS.visit, frs_append, frs]
    rw [hl, he]; exact hw
  · rcases hat with h | h
    · exact .inl h.symm
    · exact .inr ⟨g, rfl, h⟩

set_option maxHeartbeats 400000 in
theorem visit_any (H n i : Nat) (s : TS) (w : World) (sv wv : Value) (hm : GMem H n s w sv wv) (hi : i < n) (hn : n ≤ 65536) (hp : s.pre.length < n) (hnew : i ∉ s.pre)
    (hst : s.stk.length ≤ n) (hwl : s.wlk.length ≤ n) :
    Calls Try.prog 37 #[.int .i64 (i : Int), .pointer (some ⟨H + 8, 0, none⟩), .pointer (some ⟨H + 2, 0, none⟩), .pointer (some ⟨H + 4, 0, none⟩), .pointer (some ⟨H + 7, 0, none⟩), .pointer (some ⟨H + 6, 0, none⟩), .pointer (some ⟨H + 9, 0, none⟩)] w fun e w' => Visited H n s i w sv wv e w' := by
  obtain ⟨hc, hs, hw⟩ := hm
  have i0 : (0 : Int) ≤ (i : Int) := by omega
  have i1 : (i : Int) < (n : Int) := by omega
  have hf := GFr.refl H (SW sv wv) w
  obtain ⟨c8, f8⟩ := cell_of_box hc.c8
  go_enter Try.func37, Try.ntmps37
  go_wp2
  refine at_world (fun w1 => CMem H n s.ord s.low (fun v => decide (v ∈ s.stk)) (s.pre.length + 1) sv wv w1 ∧ w1.ownsRow (H + 10) 3 1 sv s.stk.length (ints (ns s.stk)) ∧ w1.ownsRow (H + 10) 67 2 wv s.wlk.length (frs s.wlk) ∧ GFr H (SW sv wv) w w1) ⟨hc.st8' (by omega), ownsRow_setCell_below hs (by simp) _, ownsRow_setCell_below hw (by simp) _, hf.setCell (by simp) (fun h => by simp at h) _⟩ ?_
  clear hc hs hw c8 f8 hf
  rintro w1 ⟨hc, hs, hw, hf⟩
  obtain ⟨c8, f8⟩ := cell_of_box hc.c8
  obtain ⟨c2, _⟩ := cell_of_box hc.c2
  obtain ⟨c4, _⟩ := cell_of_box hc.c4
  have o1 := hc.ord.cell (j := i) (by rw [fl_length]; exact hi)
  have o2 := hc.ord.frozen i
  have l1 := hc.low.cell (j := i) (by rw [fl_length]; exact hi)
  have l2 := hc.low.frozen i
  go_region_held3 (fun w' => w'.cell? ⟨H + 2, 0, none⟩ = some (.slice (some ⟨H + 1, 0, none⟩) n n) ∧ w'.cell? ⟨H + 4, 0, none⟩ = some (.slice (some ⟨H + 3, 0, none⟩) n n) ∧ w'.cell? ⟨H + 8, 0, none⟩ = some (.int .i64 ((s.pre.length + 1 : Nat) : Int))) (go_keep) (fail)
  go_step
  go_step
  refine at_world (fun w1 => CMem H n (upd s.ord i (s.pre.length + 1)) (upd s.low i (s.pre.length + 1)) (fun v => decide (v ∈ s.stk)) (s.pre.length + 1) sv wv w1 ∧ w1.ownsRow (H + 10) 3 1 sv s.stk.length (ints (ns s.stk)) ∧ w1.ownsRow (H + 10) 67 2 wv s.wlk.length (frs s.wlk) ∧ GFr H (SW sv wv) w w1) ⟨((hc.st1' (by omega)).st3' (by omega)).drew, (ownsRow_setCell_below (ownsRow_setCell_below hs (by simp) _) (by simp) _).drew, (ownsRow_setCell_below (ownsRow_setCell_below hw (by simp) _) (by simp) _).drew, ((hf.setCell (by simp) (fun h => by simp at h) _).setCell (by simp) (fun h => by simp at h) _).drew⟩ ?_
  clear hc hs hw c8 f8 hf o1 o2 l1 l2
  rintro w2 ⟨hc, hs, hw, hf⟩
  obtain ⟨c7, f7⟩ := cell_of_box hc.c7
  obtain ⟨i3, q1, q2, q3, q4⟩ := info_parts Try.info3
  obtain ⟨i67, p1, p2, p3, p4⟩ := info_parts Try.info67
  go_wp2_with (at_builtin; refine wpList_append_lies _ rfl (.tmp 18) (.tmp 20) 26 rfl (H + 10) 3 i3 (.int .i64 0) 1 8 Try.underlying26 q1 q2 q3 q4 rfl (by omega) sv s.stk.length (ints (ns s.stk)) rfl (hs.alloc _) ⟨w2.heap.size, 0, none⟩ 1 1 [.int .i64 (i : Int)] rfl rfl (cell_one_new _ _ _) (oneCell_int _) (by omega) (by unfold maxLen; omega) (by omega) (by have := hc.size; simp; omega) (w2.heap.size + 1) (by simp) ?_)
  intro g cap w3 ho hgr hat hlt
  have hsb := fun k hk => (World.ownsRow.lt hs k hk)
  have hsw := ownBlock_ne hw hs (by decide)
  have hf3 := (hf.alloc hc.size _).grown (by simp; have := hc.size; omega) hgr (fun k hk => ⟨(hsb k hk).1, .inl (.inl hk.symm)⟩)
  have hw3 := (hw.alloc _).kept hgr hsw
  have hc3 := (hc.alloc _).grown hgr (fun k hk => (hsb k hk).1)
  have HAT : Hid (sv.ownBlock = some g ∨ w.heap.size ≤ g) := by
    rcases hat with h | h
    · exact .inl h
    · exact .inr (by have := hf.size; omega)
  clear hf hw hc hs hgr hsb hsw hat c7 f7
  obtain ⟨c7, f7⟩ := cell_of_box hc3.c7
  obtain ⟨c6, f6⟩ := cell_of_box hc3.c6
  obtain ⟨c9, f9⟩ := cell_of_box hc3.c9
  obtain ⟨s0, s1⟩ := hc3.ons.cellEx (j := i) (by omega)
  have s2 := hc3.ons.frozen i
  have hgb := (World.ownsRow.lt ho g rfl).1
  go_wp2_with (at_builtin; refine wpList_append_lies _ rfl (.tmp 25) (.tmp 28) 65 rfl (H + 10) 67 i67 (.agg #[.int .i64 0, .int .i64 0]) 2 16 Try.underlying65 p1 p2 p3 p4 rfl (by omega) wv s.wlk.length (frs s.wlk) rfl ((ownsRow_setCell_below (ownsRow_setCell_below hw3 (by simp) _) (by simp) _).alloc _) ⟨w3.heap.size, 0, none⟩ 1 1 [.int .i64 (i : Int), .int .i64 0] rfl rfl (news_two (by simp) _ _ _) (oneCell_two _ _) (by omega) (by unfold maxLen; omega) (by omega) (by have := hc3.size; simp; omega) (w3.heap.size + 1) (by simp) ?_)
  intro g' cap' w4 ho4 hgr4 hat4 hlt4
  have hwb := fun k hk => (World.ownsRow.lt hw3 k hk).1
  have hc4 := (((hc3.st7 (.slice (some ⟨g, 0, none⟩) (s.stk.length + 1) cap)).st5 (i := i) (x := true)).alloc (.cells #[.int .i64 (i : Int), .int .i64 0] 67)).grown hgr4 hwb
  have hs4 := ((ownsRow_setCell_below (ownsRow_setCell_below ho (a := ⟨H + 7, 0, none⟩) (by simp) (.slice (some ⟨g, 0, none⟩) (s.stk.length + 1) cap)) (a := ⟨H + 5, i, none⟩) (by simp) (.bool true)).alloc (.cells #[.int .i64 (i : Int), .int .i64 0] 67)).kept hgr4 (ownBlock_ne ho hw3 (by decide))
  have hf4 := (((hf3.setCell (p := ⟨H + 7, 0, none⟩) (by simp) (fun h => by simp at h) (.slice (some ⟨g, 0, none⟩) (s.stk.length + 1) cap)).setCell (p := ⟨H + 5, i, none⟩) (by simp) (fun h => by simp at h) (.bool true)).alloc (by simp; have := hc3.size; omega) (.cells #[.int .i64 (i : Int), .int .i64 0] 67)).grown (by simp; have := hc3.size; omega) hgr4 (fun k hk => ⟨hwb k hk, .inl (.inr hk.symm)⟩)
  clear hgr4 hc3 ho hf3 hwb c7 f7 c6 f6 c9 f9 s1 s2 hat4 hw3
  obtain ⟨c9, f9⟩ := cell_of_box hc4.c9
  go_wp2
  go_end0
  exact visited_end hnew (hc4.st9 _) (ownsRow_setCell_below hs4 (by simp) _) (ownsRow_setCell_below ho4 (by simp) _) (hf4.setCell (by simp) (fun h => by simp at h) _) HAT.out

end Go.Proofs.Qxb6603026a
