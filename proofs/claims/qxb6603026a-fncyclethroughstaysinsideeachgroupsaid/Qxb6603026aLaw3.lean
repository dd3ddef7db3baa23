/-
  FnCycleThroughStaysInsideEachGroup (function 6): the walk.
-/
import Derived.Test.Qxb6603026aGroupOf
import Derived.Test.Qxb6603026aClone
import Derived.Test.Qxb6603026aCycle
import Derived.Test.Qxb6603026aCk
import Derived.Deep.QuietTactic
import Derived.BigQuiet
import Derived.Outline
namespace Go.Proofs.Qxb6603026a
open Go.RowKit
set_option linter.unusedSimpArgs false
set_option linter.unusedVariables false

theorem below_chain3 {a b c : World} (h : Below a.heap.size a b) (k : Below b.heap.size b c) : Below a.heap.size a c := h.trans (k.mono h.size)
theorem grs_le3 {g : Gr} {gs : List (List Nat)} (h : Scc g gs) : gs.length ≤ g.n := by
  have hne : ∀ i, i < gs.length → ∃ v, v < g.n ∧ whr gs v = i := fun i hi => by
    have hc : gs[i]? = some gs[i] := List.getElem?_eq_getElem hi
    obtain ⟨v, hv⟩ := List.exists_mem_of_ne_nil _ (h.ne i _ hc)
    exact ⟨v, h.lt i _ hc v hv, h.whr_eq hc hv⟩
  have : ∀ i ∈ List.range gs.length, i ∈ (List.range g.n).map (whr gs) := fun i hi => by
    obtain ⟨v, h1, h2⟩ := hne i (List.mem_range.1 hi)
    exact List.mem_map.2 ⟨v, List.mem_range.2 h1, h2⟩
  have := length_le_of_nodup List.nodup_range this
  simpa using this
theorem edge_of_has {d : List (List Int)} {a b : Nat} (h : hasX (row0 d a) (b : Int) = true) : (grOf d).Edge a b := by
  unfold hasX at h
  rw [List.contains_iff_mem] at h
  obtain ⟨k, hk, e⟩ := List.mem_iff_getElem.1 h
  exact ⟨k, hk, by show (at0 (row0 d a) k).toNat = b; simp [at0, hk, e]⟩
def TrueKept3 (w : World) (e : Ending) (w' : World) : Prop := e = .returned (.bool true) ∧ Below w.heap.size w w'
/-- between two groups -/
def MidRel (n gl : Nat) (w3 : World) (gv : Value) (w : World) : Prop :=
  ∃ (g : Nat) (s : List Int), g ≤ gl ∧ gv = .int .i64 (g : Int) ∧ IRow w w3.heap.size n s ∧ s.length = n ∧ (∀ v, v < n → at0 s v < ((g + 1 : Nat) : Int)) ∧ Below w3.heap.size w3 w

set_option maxRecDepth 100000 in
set_option maxHeartbeats 2000000 in
theorem law3_any (B : Nat) (w : World) (v : Value) (d : List (List Int)) (h : RowsAt B w v d) (hB : B ≤ w.heap.size) :
    Calls Try.prog 6 #[v] w fun e w' => TrueKept3 w e w' := by
  obtain ⟨av, cv, rfl⟩ : ∃ a cap, v = .slice a d.length cap := by
    obtain ⟨a, b, off, cap, vs, h1, _⟩ := h
    exact ⟨a, cap, h1⟩
  have hmax : d.length ≤ 9223372036854775807 := by
    obtain ⟨a, b, off, cap, vs, h1, h2, _⟩ := h
    unfold maxLen at h2; exact h2
  have H0 : Hid _ := h
  clear h
  go_enter Try.func6, Try.ntmps6
  go_wp2_with fail
  refine (bytes23 B w _ d H0.out).mono ?_
  rintro e w' ⟨⟨b0, rfl⟩, rfl⟩
  cases b0 with
  | false =>
    go_wp2_with fail
    go_ret
    exact ⟨rfl, Below.refl _ _⟩
  | true =>
  by_cases hn : d.length ≤ 65536
  · go_wp2_with fail
    refine (words_any B w' _ d H0.out).mono ?_
    rintro e w'' ⟨⟨t, rfl, ht⟩, rfl⟩
    by_cases hw : t ≤ 131072
    · have hwd := ht hw
      clear ht
      go_wp2_with fail
      refine (range_any B w'' _ d H0.out).mono ?_
      rintro e w ⟨⟨b1, rfl, hb1⟩, rfl⟩
      cases b1 with
      | false =>
        clear hb1
        go_wp2_with fail
        go_ret
        exact ⟨rfl, Below.refl _ _⟩
      | true =>
        have hr := hb1 rfl
        clear hb1 hw
        go_wp2_with fail
        refine (clone_deps B w _ d H0.out hB hwd).mono ?_
        rintro e w1 ⟨dv, rfl, hb1, hd1⟩
        have hd1' : RowsAt w1.heap.size w1 dv d := hd1.weaken (fun b hb => hb.2)
        clear hd1
        obtain ⟨ad, cd, rfl⟩ : ∃ a cap, dv = .slice a d.length cap := by
          obtain ⟨a, b, off, cap, vs, h1, _⟩ := hd1'
          exact ⟨a, cap, h1⟩
        have HB1 : Hid _ := hb1
        have HD1 : Hid _ := hd1'
        clear hb1 hd1' H0
        go_wp2_with fail
        refine (zzgroups_any w1.heap.size w1 _ d HD1.out (Nat.le_refl _) hn hwd hr).mono ?_
        rintro e w2 ⟨gv, s, rfl, hi1, hi2, hwk, hpre, hdf, hb2, hg2⟩
        have hscc : Scc (grOf d) s.grs := scc_of hi1 hwk hpre
        generalize s.grs = gs at hscc hg2
        clear hi1 hi2 hwk hpre hdf
        have hg2' : RowsAt w2.heap.size w2 gv (gs.map ns) := hg2.weaken (fun b hb => hb.2)
        have HSCC : Hid _ := hscc
        have HG2 : Hid _ := hg2'
        have HB2 : Hid _ := hb2
        have HD2 : Hid (RowsAt w2.heap.size w2 (.slice ad d.length cd) d) := RowsAt.mono (RowsAt.below HD1.out hb2) hb2.size
        obtain ⟨ag, cg, rfl⟩ : ∃ a cap, gv = .slice a gs.length cap := by
          obtain ⟨a, b, off, cap, vs, h1, _⟩ := hg2'
          exact ⟨a, cap, by simpa using h1⟩
        clear hscc hg2 hg2' hb2 HD1
        go_wp2_with fail
        refine (groupOf_any w2.heap.size w2 _ (grOf d) gs HSCC.out HG2.out (Nat.le_refl _) hn).mono ?_
        rintro e w3 ⟨whv, rfl, hb3, hwh⟩
        have HB3 : Hid _ := hb3
        have hwh' : IntsAt w3.heap.size w3 whv (fl d.length (whr gs)) := hwh.weaken (fun b hb => hb.2)
        have HW3 : Hid _ := hwh'
        have HD3 : Hid (RowsAt w3.heap.size w3 (.slice ad d.length cd) d) := RowsAt.mono (RowsAt.below HD2.out hb3) hb3.size
        have HG3 : Hid (RowsAt w3.heap.size w3 (.slice ag gs.length cg) (gs.map ns)) := RowsAt.mono (RowsAt.below HG2.out hb3) hb3.size
        clear hb3 hwh hwh' HD2 HG2
        have hgl : gs.length ≤ d.length := grs_le3 HSCC.out
        have hmk := makeI d.length (by omega)
        have HI0 : Hid (IRow (w3.alloc (.cells (madeCells #[.int .i64 0] d.length) 3)) w3.heap.size d.length (List.replicate d.length 0)) := IRow.made w3 d.length (by unfold maxLen; omega)
        have HWD : Hid _ := hwd
        have HRG : Hid _ := hr
        obtain ⟨aw, cw, rfl⟩ : ∃ a cap, whv = .slice a d.length cap := by
          obtain ⟨a, b, off, cap, h1, _⟩ := HW3.out
          exact ⟨a, cap, by simpa [fl_length] using h1⟩
        clear hwd hr
        go_wp2_with fail
        go_loopw [8] (fun gv wr => MidRel d.length gs.length w3 gv wr) (fun gv _ => gs.length - (intOf gv).toNat)
        case atStart => exact ⟨0, _, Nat.zero_le _, rfl, HI0.out, by simp, fun v hv => by rw [show at0 (List.replicate d.length (0 : Int)) v = 0 by simp [at0, hv]]; omega, (Below.refl _ _).alloc (Nat.le_refl _) _⟩
        case round =>
          clear HI0
          obtain ⟨g, s, hg1, rfl, hi, hsl, hsr, hb⟩ := hrel
          have HI : Hid _ := hi
          have HSL : Hid _ := hsl
          have HSR : Hid _ := hsr
          have HB : Hid _ := hb
          have hbs := hi.lt
          by_cases hlt : g < gs.length
          · obtain ⟨c, hcg⟩ : ∃ c, gs[g]? = some c := ⟨_, List.getElem?_eq_getElem hlt⟩
            obtain ⟨f, c', rfl⟩ : ∃ f c', c = f :: c' := by
              cases c with
              | nil => exact absurd rfl (HSCC.out.ne g _ hcg)
              | cons f c' => exact ⟨f, c', rfl⟩
            have hfn : f < d.length := HSCC.out.lt g _ hcg f (by simp)
            have hcl : (f :: c').length ≤ d.length := by
              have := length_le_of_nodup (HSCC.out.nd g _ hcg) (m := List.range d.length) (fun v hv => List.mem_range.2 (HSCC.out.lt g _ hcg v hv))
              simpa using this
            have hcl' : c'.length + 1 ≤ d.length := by simpa using hcl
            obtain ⟨a, b, off, cap0, vs, hva, hmax', ha, hc⟩ := HG3.out
            rw [List.length_map] at hva hmax' ha hc
            obtain ⟨hp, hbB⟩ := ha (by omega)
            obtain ⟨hcv, hgin⟩ := hc g hlt
            rw [row0_map hcg] at hgin
            have HGI : Hid _ := hgin
            obtain ⟨a1, b1, off1, cap2, hv1, hm1, ha1, hc1⟩ := hgin
            rw [ns_length] at hv1 ha1 hc1
            have hcell := (hb.cell (p := ⟨b, off + g, none⟩) (by exact hbB)).trans hcv
            rw [hv1] at hcell HGI
            obtain ⟨hp1, hbB1⟩ := ha1 (by simp)
            have hc10 := hc1 0 (by simp)
            rw [show at0 (ns (f :: c')) 0 = (f : Int) by simp [at0, ns]] at hc10
            have hcell0 := (hb.cell (p := ⟨b1, off1 + 0, none⟩) (by exact hbB1)).trans hc10
            rw [Nat.add_zero] at hcell0
            cases hva
            subst hp
            subst hp1
            obtain ⟨ad', bd, od, cdd, vd, hvd, hmd, had, hcd⟩ := HD3.out
            obtain ⟨hpd, hbd⟩ := had (by omega)
            obtain ⟨hcvf, hrowf⟩ := hcd f hfn
            have hcellf := (hb.cell (p := ⟨bd, od + f, none⟩) (by exact hbd)).trans hcvf
            obtain ⟨rv, hrv⟩ : ∃ rv, rv = vd f := ⟨_, rfl⟩
            rw [← hrv] at hcellf hrowf
            have HRF : Hid (IntsIn (fun b => b < w3.heap.size) wr rv (row0 d f)) := hrowf.same (fun b hb' => hb.block b hb')
            cases hvd
            subst hpd
            have hrl := row_le HWD.out hfn
            have HCG : Hid _ := hcg
            have f0 : (0 : Int) ≤ (f : Int) := by omega
            have f1 : (f : Int) < (d.length : Int) := by omega
            clear hc ha hmax' hcv hc1 ha1 hm1 hv1 hc10 hcvf hrowf hrv hmd had hcd hcg hi hsl hsr hb
            -- the group is one step without an edge to itself: or a cycle is asked for
            by_cases hc0 : c' = []
            · subst hc0
              have hcall := hasEdge_any _ wr rv (row0 d f) (f : Int) HRF.out (by omega)
              by_cases hx : hasX (row0 d f) (f : Int) = true
              · rw [hx] at hcall
                have HCALL : Hid _ := hcall
                have HBK : Hid (HasBack (grOf d) [f] f) := ⟨f, by simp, edge_of_has hx⟩
                clear hcall hx
                go_wp2_with fail
                refine Calls.mono HCALL.out ?_
                rintro e w' ⟨he, hw'⟩
                subst he
                subst hw'
                go_wp2_with fail
                refine Calls.mono (zzcyc_any _ d gs g [f] f (some ⟨bd, od, none⟩) (some ⟨b1, off1, none⟩) cd cap2 hn HWD.out HRG.out HSCC.out HCG.out (by simp) HBK.out (RowsAt.mono (RowsAt.below HD3.out HB.out) (by omega)) (IntsAt.mono (IntsAt.below HGI.out HB.out) (by omega))) ?_
                rintro e w5 ⟨cv, R, rfl, hcy, hb5, hcvin⟩
                have hRl := hcy.length (by simp)
                have hRl' : R.length + 1 ≤ 0 + 1 := by simpa using hRl
                have HCV : Hid _ := hcvin
                obtain ⟨acy, bcy, ocy, ccy, hvc, hmc, hac, hcc⟩ := hcvin
                have hCl : (ns (f :: R ++ [f])).length = R.length + 1 + 1 := by rw [ns_length]; simp
                rw [hCl] at hvc hmc hac hcc
                subst hvc
                obtain ⟨hpc, hbc, _⟩ := hac (by omega)
                subst hpc
                have hy0 := hcc 0 (by omega)
                rw [show at0 (ns (f :: R ++ [f])) 0 = (f : Int) by simp [at0, ns], Nat.add_zero] at hy0
                have hy1 := hcc (R.length + 1) (by omega)
                rw [show at0 (ns (f :: R ++ [f])) (R.length + 1) = (f : Int) by simp [at0, ns]] at hy1
                have q1 : decide (((R.length + 1 + 1 : Nat) : Int) < 2) = false := decide_eq_false (by omega)
                have q2 : decide (((0 + 1 : Nat) : Int) + 1 < ((R.length + 1 + 1 : Nat) : Int)) = false := decide_eq_false (by omega)
                have q3 : ((f : Int) != (f : Int)) = false := by simp
                have q4 : ((R.length + 1 + 1 : Nat) : Int) - 1 = ((R.length + 1 : Nat) : Int) := by omega
                have HCY : Hid _ := hcy
                have HB5 : Hid _ := hb5
                have HI5 : Hid (IRow w5 w3.heap.size d.length s) := IRow.below HI.out hb5 hbs
                have hk5 : Below w3.heap.size w3 w5 := HB.out.trans (hb5.mono (by omega))
                have HK5 : Hid _ := hk5
                clear hcy hb5 hac hcc hmc hCl hk5 hRl
                go_wp2_with fail
                refine chkLoop w3.heap.size w3.heap.size w5 d gs [f] g f R _ cd _ _ ccy s hn HWD.out HRG.out HSCC.out HCG.out (by omega) (by simp) HCY.out (by omega) (Nat.le_refl _) ((RowsAt.below HD3.out HK5.out).weaken (fun b hb => by omega)) ((IntsAt.below HW3.out HK5.out).weaken (fun b hb => by omega)) (by
                  have h0 := IntsIn.weaken (S' := fun b => b ≠ w3.heap.size) HCV.out (fun b hb => by omega)
                  exact h0) HI5.out HSL.out HSR.out ?_
                intros
                rename_i s1 w6 hi6 hl6 hr6 hb6
                have HR6 : Hid (MidRel d.length gs.length w3 (.int .i64 ((g : Int) + 1)) w6) := ⟨g + 1, s1, hlt, by go_num, hi6, hl6, hr6, HK5.out.trans hb6⟩
                clear hi6 hl6 hr6 hb6
                go_wp2
                go_roundw
                case rel => exact HR6.out
                case measure => simp [intOf]; omega
              · rw [Bool.not_eq_true] at hx
                rw [hx] at hcall
                have HCALL : Hid _ := hcall
                have HR6 : Hid (MidRel d.length gs.length w3 (.int .i64 ((g : Int) + 1)) wr) := ⟨g + 1, s, hlt, by go_num, HI.out, HSL.out, fun v hv => by have := HSR.out v hv; omega, HB.out⟩
                clear hcall hx
                go_wp2_with fail
                refine Calls.mono HCALL.out ?_
                rintro e w' ⟨rfl, rfl⟩
                go_wp2
                go_roundw
                case rel => exact HR6.out
                case measure => simp [intOf]; omega
            · have hpos : 0 < c'.length := List.length_pos_iff.2 hc0
              have t1 : (((c'.length + 1 : Nat) : Int) == 1) = false := by rw [beq_eq_false_iff_ne]; omega
              have HBK : Hid (HasBack (grOf d) (f :: c') f) := by
                obtain ⟨y, c2, rfl⟩ : ∃ y c2, c' = y :: c2 := by
                  cases c' with
                  | nil => exact absurd rfl hc0
                  | cons y c2 => exact ⟨y, c2, rfl⟩
                exact hasBack_of HSCC.out (grOf_ok HRG.out) HCG.out (by simp) (y := y) (by simp) (fun e => by
                  have h9 := HSCC.out.nd g _ HCG.out
                  rw [e] at h9
                  simp at h9)
              clear hc0
              go_wp2_with fail
              refine Calls.mono (zzcyc_any wr d gs g (f :: c') f (some ⟨bd, od, none⟩) (some ⟨b1, off1, none⟩) cd cap2 hn HWD.out HRG.out HSCC.out HCG.out (by simp) HBK.out (RowsAt.mono (RowsAt.below HD3.out HB.out) (by omega)) (IntsAt.mono (IntsAt.below HGI.out HB.out) (by omega))) ?_
              rintro e w5 ⟨cv, R, rfl, hcy, hb5, hcvin⟩
              have hRl := hcy.length (by simp)
              have hRl' : R.length + 1 ≤ c'.length + 1 := by simpa using hRl
              have HCV : Hid _ := hcvin
              obtain ⟨acy, bcy, ocy, ccy, hvc, hmc, hac, hcc⟩ := hcvin
              have hCl : (ns (f :: R ++ [f])).length = R.length + 1 + 1 := by rw [ns_length]; simp
              rw [hCl] at hvc hmc hac hcc
              subst hvc
              obtain ⟨hpc, hbc, _⟩ := hac (by omega)
              subst hpc
              have hy0 := hcc 0 (by omega)
              rw [show at0 (ns (f :: R ++ [f])) 0 = (f : Int) by simp [at0, ns], Nat.add_zero] at hy0
              have hy1 := hcc (R.length + 1) (by omega)
              rw [show at0 (ns (f :: R ++ [f])) (R.length + 1) = (f : Int) by simp [at0, ns]] at hy1
              have q1 : decide (((R.length + 1 + 1 : Nat) : Int) < 2) = false := decide_eq_false (by omega)
              have q2 : decide (((c'.length + 1 : Nat) : Int) + 1 < ((R.length + 1 + 1 : Nat) : Int)) = false := decide_eq_false (by omega)
              have q3 : ((f : Int) != (f : Int)) = false := by simp
              have q4 : ((R.length + 1 + 1 : Nat) : Int) - 1 = ((R.length + 1 : Nat) : Int) := by omega
              have HCY : Hid _ := hcy
              have HB5 : Hid _ := hb5
              have HI5 : Hid (IRow w5 w3.heap.size d.length s) := IRow.below HI.out hb5 hbs
              have hk5 : Below w3.heap.size w3 w5 := HB.out.trans (hb5.mono (by omega))
              have HK5 : Hid _ := hk5
              clear hcy hb5 hac hcc hmc hCl hk5 hRl
              go_wp2_with fail
              refine chkLoop w3.heap.size w3.heap.size w5 d gs (f :: c') g f R _ cd _ _ ccy s hn HWD.out HRG.out HSCC.out HCG.out (by omega) (by simp) HCY.out (by omega) (Nat.le_refl _) ((RowsAt.below HD3.out HK5.out).weaken (fun b hb => by omega)) ((IntsAt.below HW3.out HK5.out).weaken (fun b hb => by omega)) (by
                have h0 := IntsIn.weaken (S' := fun b => b ≠ w3.heap.size) HCV.out (fun b hb => by omega)
                exact h0) HI5.out HSL.out HSR.out ?_
              intros
              rename_i s1 w6 hi6 hl6 hr6 hb6
              have HR6 : Hid (MidRel d.length gs.length w3 (.int .i64 ((g : Int) + 1)) w6) := ⟨g + 1, s1, hlt, by go_num, hi6, hl6, hr6, HK5.out.trans hb6⟩
              clear hi6 hl6 hr6 hb6
              go_wp2
              go_roundw
              case rel => exact HR6.out
              case measure => simp [intOf]; omega
          · have hh' : g = gs.length := by omega
            subst hh'
            clear hi hsl hsr hb
            have HK : Hid (Below w.heap.size w wr) := below_chain3 (below_chain3 (below_chain3 HB1.out HB2.out) HB3.out) HB.out
            go_wp2
            go_ret
            exact ⟨rfl, HK.out⟩
    · clear ht
      go_wp2_with fail
      go_ret
      exact ⟨rfl, Below.refl _ _⟩
  · go_wp2_with fail
    go_ret
    exact ⟨rfl, Below.refl _ _⟩

end Go.Proofs.Qxb6603026a
