/-
  FnGroupsAreOrderedStronglyConnectedParts (function 4): the walk.
-/
import Derived.Test.Qxb6603026aGroupOf
import Derived.Test.Qxb6603026aL1Edge
import Derived.Test.Qxb6603026aL1Part
import Derived.Test.Qxb6603026aClone
import Derived.Deep.QuietTactic
import Derived.BigQuiet
import Derived.Outline
namespace Go.Proofs.Qxb6603026a
open Go.RowKit
set_option linter.unusedSimpArgs false
set_option linter.unusedVariables false

theorem below_chain {a b c : World} (h : Below a.heap.size a b) (k : Below b.heap.size b c) : Below a.heap.size a c := h.trans (k.mono h.size)
theorem below_drewN {a w : World} {B q : Nat} (h : Below B a w) : Below B a (w.drewN q) := ⟨h.os, h.tape, h.output, h.size, h.block⟩

def TrueKept (w : World) (e : Ending) (w' : World) : Prop := e = .returned (.bool true) ∧ Below w.heap.size w w'

set_option maxRecDepth 100000 in
set_option maxHeartbeats 2000000 in
theorem law1_any (B : Nat) (w : World) (v : Value) (d : List (List Int)) (h : RowsAt B w v d) (hB : B ≤ w.heap.size) :
    Calls Try.prog 4 #[v] w fun e w' => TrueKept w e w' := by
  obtain ⟨av, cv, rfl⟩ : ∃ a cap, v = .slice a d.length cap := by
    obtain ⟨a, b, off, cap, vs, h1, _⟩ := h
    exact ⟨a, cap, h1⟩
  have hmax : d.length ≤ 9223372036854775807 := by
    obtain ⟨a, b, off, cap, vs, h1, h2, _⟩ := h
    unfold maxLen at h2; exact h2
  have H0 : Hid _ := h
  clear h
  go_enter Try.func4, Try.ntmps4
  go_wp2_with fail
  refine (bytes17 B w _ d H0.out).mono ?_
  rintro e w' ⟨⟨b0, rfl⟩, rfl⟩
  cases b0 with
  | false =>
    go_wp2_with fail
    go_ret
    exact ⟨rfl, Below.refl _ _⟩
  | true =>
  by_cases hn : d.length ≤ 65536
  · go_wp2_with fail
    refine (words_any B w' _ d H0.out).mono ?_
    rintro e w'' ⟨⟨t, rfl, ht⟩, rfl⟩
    by_cases hw : t ≤ 131072
    · have hwd := ht hw
      clear ht
      go_wp2_with fail
      refine (range_any B w'' _ d H0.out).mono ?_
      rintro e w ⟨⟨b1, rfl, hb1⟩, rfl⟩
      cases b1 with
      | false =>
        clear hb1
        go_wp2_with fail
        go_ret
        exact ⟨rfl, Below.refl _ _⟩
      | true =>
        have hr := hb1 rfl
        clear hb1 hw
        go_wp2_with fail
        refine (clone_deps B w _ d H0.out hB hwd).mono ?_
        rintro e w1 ⟨dv, rfl, hb1, hd1⟩
        have hd1' : RowsAt w1.heap.size w1 dv d := hd1.weaken (fun b hb => hb.2)
        clear hd1
        obtain ⟨ad, cd, rfl⟩ : ∃ a cap, dv = .slice a d.length cap := by
          obtain ⟨a, b, off, cap, vs, h1, _⟩ := hd1'
          exact ⟨a, cap, h1⟩
        have HB1 : Hid _ := hb1
        have HD1 : Hid _ := hd1'
        clear hb1 hd1' H0
        go_wp2_with fail
        refine (zzgroups_any w1.heap.size w1 _ d HD1.out (Nat.le_refl _) hn hwd hr).mono ?_
        rintro e w2 ⟨gv, s, rfl, hi1, hi2, hwk, hpre, hdf, hb2, hg2⟩
        have hscc : Scc (grOf d) s.grs := scc_of hi1 hwk hpre
        generalize s.grs = gs at hscc hg2
        clear hi1 hi2 hwk hpre hdf
        have hg2' : RowsAt w2.heap.size w2 gv (gs.map ns) := hg2.weaken (fun b hb => hb.2)
        have HSCC : Hid _ := hscc
        have HG2 : Hid _ := hg2'
        have HB2 : Hid _ := hb2
        have HD2 : Hid (RowsAt w2.heap.size w2 (.slice ad d.length cd) d) := RowsAt.mono (RowsAt.below HD1.out hb2) hb2.size
        obtain ⟨ag, cg, rfl⟩ : ∃ a cap, gv = .slice a gs.length cap := by
          obtain ⟨a, b, off, cap, vs, h1, _⟩ := hg2'
          exact ⟨a, cap, by simpa using h1⟩
        clear hscc hg2 hg2' hb2 HD1
        go_wp2_with fail
        refine (groupOf_any w2.heap.size w2 _ (grOf d) gs HSCC.out HG2.out (Nat.le_refl _) hn).mono ?_
        rintro e w3 ⟨whv, rfl, hb3, hwh⟩
        have HB3 : Hid _ := hb3
        have hwh' : IntsAt w3.heap.size w3 whv (fl d.length (whr gs)) := hwh.weaken (fun b hb => hb.2)
        have HW3 : Hid _ := hwh'
        have HD3 : Hid (RowsAt w3.heap.size w3 (.slice ad d.length cd) d) := RowsAt.mono (RowsAt.below HD2.out hb3) hb3.size
        have HG3 : Hid (RowsAt w3.heap.size w3 (.slice ag gs.length cg) (gs.map ns)) := RowsAt.mono (RowsAt.below HG2.out hb3) hb3.size
        clear hb3 hwh hwh' HD2 HG2
        go_wp2_with fail
        refine edgeLoop w3.heap.size w3 d gs ad cd whv hn hwd hr HSCC.out HD3.out HW3.out ?_
        intros
        rename_i q
        go_wp2_with fail
        refine (pred_any (w3.drewN q).heap.size (w3.drewN q) _ d (RowsIn.same (w' := w3.drewN q) HD3.out (fun _ _ => rfl)) (Nat.le_refl _) hn hwd hr).mono ?_
        rintro e w4 ⟨sv, pv, st, pr, rfl, hb4, hsv, hpv, hps⟩
        have HB4 : Hid _ := hb4
        have HD4 : Hid (RowsAt w4.heap.size w4 (.slice ad d.length cd) d) := RowsAt.mono (RowsAt.below (B := (w3.drewN q).heap.size) (RowsIn.same (w' := w3.drewN q) HD3.out (fun _ _ => rfl)) hb4) hb4.size
        have HG4 : Hid (RowsAt w4.heap.size w4 (.slice ag gs.length cg) (gs.map ns)) := RowsAt.mono (RowsAt.below (B := (w3.drewN q).heap.size) (RowsIn.same (w' := w3.drewN q) HG3.out (fun _ _ => rfl)) hb4) hb4.size
        have HW4 : Hid (IntsAt w4.heap.size w4 whv (fl d.length (whr gs))) := IntsAt.mono (IntsAt.below (B := (w3.drewN q).heap.size) (IntsIn.same (w' := w3.drewN q) HW3.out (fun _ _ => rfl)) hb4) hb4.size
        have HSV : Hid (IntsAt w4.heap.size w4 sv st) := hsv.weaken (fun b hb => hb.2)
        have HPV : Hid (IntsAt w4.heap.size w4 pv pr) := hpv.weaken (fun b hb => hb.2)
        have HPS : Hid _ := hps
        clear hb4 hsv hpv hps HD3 HG3 HW3
        have hmk := makeI d.length (by omega)
        have hmk0 := makeI0 d.length (by omega)
        go_wp2_with fail
        have hcp : (w4.alloc (.cells (madeCells #[.int .i64 0] d.length) 3)).heap.size = w4.heap.size + 1 := by simp
        have I1 := IRow.made w4 d.length (by unfold maxLen; omega)
        have I2 := IRow.made (w4.alloc (.cells (madeCells #[.int .i64 0] d.length) 3)) d.length (by unfold maxLen; omega)
        have I3 := IRow.made0 ((w4.alloc (.cells (madeCells #[.int .i64 0] d.length) 3)).alloc (.cells (madeCells #[.int .i64 0] d.length) 3)) d.length (by unfold maxLen; omega)
        have hcp2 : ((w4.alloc (.cells (madeCells #[.int .i64 0] d.length) 3)).alloc (.cells (madeCells #[.int .i64 0] d.length) 3)).heap.size = w4.heap.size + 2 := by simp
        rw [hcp] at I2
        rw [hcp2] at I3
        simp only [Nat.add_assoc, Nat.reduceAdd]
        have z0 : ∀ v, v < d.length → at0 (List.replicate d.length (0 : Int)) v = 0 := fun v hv => by simp [at0, hv]
        refine partLoop w4.heap.size w4 _ d gs ad cd ag cg sv pv whv st pr (w4.heap.size + 2) d.length (List.replicate d.length 0) (List.replicate d.length 0) hn hwd hr HSCC.out HD4.out HG4.out HW4.out HSV.out HPV.out HPS.out ?_ ?_
        · refine ⟨?_, by simp, (I1.alloc _).alloc _, I2.alloc _, I3, Nat.le_refl _, by simp, by simp, fun v hv => ?_, fun v hv => ?_⟩
          · exact (((Below.refl _ _).alloc (Nat.le_refl _) _).alloc (by simp) _).alloc (by simp; omega) _
          · rw [z0 v hv]; omega
          · rw [z0 v hv]; omega
        · intros
          rename_i w5 hb5
          have HK : Hid (Below w.heap.size w w5) := below_chain (below_chain (below_drewN (below_chain (below_chain HB1.out HB2.out) HB3.out)) HB4.out) hb5
          clear hb5
          go_wp2
          go_ret
          exact ⟨rfl, HK.out⟩
    · clear ht
      go_wp2_with fail
      go_ret
      exact ⟨rfl, Below.refl _ _⟩
  · go_wp2_with fail
    go_ret
    exact ⟨rfl, Below.refl _ _⟩

end Go.Proofs.Qxb6603026a
