/-
  FnGroupsMatchKosarajuModel (function 3): the walk.
-/
import Derived.Test.Qxb6603026aGroupOf
import Derived.Test.Qxb6603026aClone
import Derived.Test.Qxb6603026aK1
import Derived.Test.Qxb6603026aK2
import Derived.Test.Qxb6603026aK3
import Derived.Test.Qxb6603026aK4
import Derived.Test.Qxb6603026aK7
import Derived.Test.Qxb6603026aK8
import Derived.Test.Qxb6603026aK9
import Derived.Test.Qxb6603026aK10
import Derived.Test.Qxb6603026aK11
import Derived.Deep.Cut
import Derived.Deep.CutRange
import Derived.RegionTactic
import Derived.BigRegion
import Derived.Deep.QuietTactic
import Derived.BigQuiet
import Derived.Outline
namespace Go.Proofs.Qxb6603026a
open Go.RowKit
set_option linter.unusedSimpArgs false
set_option linter.unusedVariables false

theorem below_chain2 {a b c : World} (h : Below a.heap.size a b) (k : Below b.heap.size b c) : Below a.heap.size a c := h.trans (k.mono h.size)
theorem below_drewN2 {a w : World} {B q : Nat} (h : Below B a w) : Below B a (w.drewN q) := ⟨h.os, h.tape, h.output, h.size, h.block⟩
theorem grs_le2 {g : Gr} {gs : List (List Nat)} (h : Scc g gs) : gs.length ≤ g.n := by
  have hne : ∀ i, i < gs.length → ∃ v, v < g.n ∧ whr gs v = i := fun i hi => by
    have hc : gs[i]? = some gs[i] := List.getElem?_eq_getElem hi
    obtain ⟨v, hv⟩ := List.exists_mem_of_ne_nil _ (h.ne i _ hc)
    exact ⟨v, h.lt i _ hc v hv, h.whr_eq hc hv⟩
  have : ∀ i ∈ List.range gs.length, i ∈ (List.range g.n).map (whr gs) := fun i hi => by
    obtain ⟨v, h1, h2⟩ := hne i (List.mem_range.1 hi)
    exact List.mem_map.2 ⟨v, List.mem_range.2 h1, h2⟩
  have := length_le_of_nodup List.nodup_range this
  simpa using this

def TrueKept2 (w : World) (e : Ending) (w' : World) : Prop := e = .returned (.bool true) ∧ Below w.heap.size w w'

/-- the struct of the walk as it was made -/
theorem VM.made {n bs bp bq : Nat} {w : World} (h : Row w 28 4 bs 1 1 [.slice (some ⟨bp, 0, none⟩) n n, .slice (some ⟨bq, 0, none⟩) n n, .int .i64 0, .int .i64 0]) (hp : IRow w bp n (List.replicate n 0)) (hq : IRow w bq n (List.replicate n 0)) : VM n bs bp bq [] [] w := by
  have e : fl n (ordOf []) = List.replicate n 0 := by
    apply List.ext_getElem (by simp [fl])
    intro k h1 h2
    simp [fl, ordOf]
  exact ⟨h, by rw [e]; exact hp, by rw [e]; exact hq⟩

/-- what the drawn region leaves: the struct and its two rows, in some order -/
def Made (n : Nat) (w2 : World) (s5 : Value) (wx : World) : Prop :=
  ∃ bs bp bq : Nat, s5 = .pointer (some ⟨bs, 0, none⟩) ∧ w2.heap.size ≤ bs ∧ w2.heap.size ≤ bp ∧ w2.heap.size ≤ bq ∧ bs ≠ bp ∧ bs ≠ bq ∧ bp ≠ bq ∧ VM n bs bp bq [] [] wx ∧ Below w2.heap.size w2 wx
def zs (n : Nat) : Obj := .cells (madeCells #[.int .i64 0] n) 3
def so (n bp bq : Nat) : Obj := .cells #[.slice (some ⟨bp, 0, none⟩) n n, .slice (some ⟨bq, 0, none⟩) n n, .int .i64 0, .int .i64 0] 28
theorem row_so (w : World) (n bp bq : Nat) : Row (w.alloc (so n bp bq)) 28 4 w.heap.size 1 1 [.slice (some ⟨bp, 0, none⟩) n n, .slice (some ⟨bq, 0, none⟩) n n, .int .i64 0, .int .i64 0] :=
  World.ownsRow_lit (base := 0) (e := 28) (size := 4) w #[.slice (some ⟨bp, 0, none⟩) n n, .slice (some ⟨bq, 0, none⟩) n n, .int .i64 0, .int .i64 0] 1 (Nat.zero_le _) (by unfold maxLen; omega) rfl
theorem row_zs (w : World) {n : Nat} (hn : n ≤ 65536) : IRow (w.alloc (zs n)) w.heap.size n (List.replicate n 0) := IRow.made w n (by unfold maxLen; omega)
theorem size_al (w : World) (o : Obj) : (w.alloc o).heap.size = w.heap.size + 1 := by simp
theorem below3 (w : World) (a b c : Obj) : Below w.heap.size w (((w.alloc a).alloc b).alloc c).drew :=
  ((((Below.refl _ _).alloc (Nat.le_refl _) a).alloc (by rw [size_al]; omega) b).alloc (by rw [size_al, size_al]; omega) c).drew
theorem made_1 (w : World) {n : Nat} (hn : n ≤ 65536) {bp bq : Nat} (h : (bp = w.heap.size ∧ bq = w.heap.size + 1) ∨ (bq = w.heap.size ∧ bp = w.heap.size + 1)) :
    Made n w (.pointer (some ⟨w.heap.size + 1 + 1, 0, none⟩)) (((w.alloc (zs n)).alloc (zs n)).alloc (so n bp bq)).drew := by
  have r0 := ((row_zs w hn).alloc (zs n)).alloc (so n bp bq)
  have r1 := (row_zs (w.alloc (zs n)) hn).alloc (so n bp bq)
  have r2 := row_so ((w.alloc (zs n)).alloc (zs n)) n bp bq
  rw [size_al] at r1
  rw [size_al, size_al] at r2
  rcases h with ⟨rfl, rfl⟩ | ⟨rfl, rfl⟩
  · exact ⟨_, _, _, rfl, by omega, by omega, by omega, by omega, by omega, by omega, (VM.made r2 r0 r1).drew, below3 _ _ _ _⟩
  · exact ⟨_, _, _, rfl, by omega, by omega, by omega, by omega, by omega, by omega, (VM.made r2 r1 r0).drew, below3 _ _ _ _⟩
theorem made_2 (w : World) {n : Nat} (hn : n ≤ 65536) {bp bq : Nat} (h : (bp = w.heap.size ∧ bq = w.heap.size + 1 + 1) ∨ (bq = w.heap.size ∧ bp = w.heap.size + 1 + 1)) :
    Made n w (.pointer (some ⟨w.heap.size + 1, 0, none⟩)) (((w.alloc (zs n)).alloc (so n bp bq)).alloc (zs n)).drew := by
  have r0 := ((row_zs w hn).alloc (so n bp bq)).alloc (zs n)
  have r1 := row_zs ((w.alloc (zs n)).alloc (so n bp bq)) hn
  have r2 := (row_so (w.alloc (zs n)) n bp bq).alloc (zs n)
  rw [size_al, size_al] at r1
  rw [size_al] at r2
  rcases h with ⟨rfl, rfl⟩ | ⟨rfl, rfl⟩
  · exact ⟨_, _, _, rfl, by omega, by omega, by omega, by omega, by omega, by omega, (VM.made r2 r0 r1).drew, below3 _ _ _ _⟩
  · exact ⟨_, _, _, rfl, by omega, by omega, by omega, by omega, by omega, by omega, (VM.made r2 r1 r0).drew, below3 _ _ _ _⟩
theorem made_3 (w : World) {n : Nat} (hn : n ≤ 65536) {bp bq : Nat} (h : (bp = w.heap.size + 1 ∧ bq = w.heap.size + 1 + 1) ∨ (bq = w.heap.size + 1 ∧ bp = w.heap.size + 1 + 1)) :
    Made n w (.pointer (some ⟨w.heap.size, 0, none⟩)) (((w.alloc (so n bp bq)).alloc (zs n)).alloc (zs n)).drew := by
  have r0 := (row_zs (w.alloc (so n bp bq)) hn).alloc (zs n)
  have r1 := row_zs ((w.alloc (so n bp bq)).alloc (zs n)) hn
  have r2 := ((row_so w n bp bq).alloc (zs n)).alloc (zs n)
  rw [size_al] at r0
  rw [size_al, size_al] at r1
  rcases h with ⟨rfl, rfl⟩ | ⟨rfl, rfl⟩
  · exact ⟨_, _, _, rfl, by omega, by omega, by omega, by omega, by omega, by omega, (VM.made r2 r0 r1).drew, below3 _ _ _ _⟩
  · exact ⟨_, _, _, rfl, by omega, by omega, by omega, by omega, by omega, by omega, (VM.made r2 r1 r0).drew, below3 _ _ _ _⟩

set_option maxRecDepth 100000 in
set_option maxHeartbeats 2000000 in
theorem law2_any (B : Nat) (w : World) (v : Value) (d : List (List Int)) (h : RowsAt B w v d) (hB : B ≤ w.heap.size) :
    Calls Try.prog 3 #[v] w fun e w' => TrueKept2 w e w' := by
  obtain ⟨av, cv, rfl⟩ : ∃ a cap, v = .slice a d.length cap := by
    obtain ⟨a, b, off, cap, vs, h1, _⟩ := h
    exact ⟨a, cap, h1⟩
  have hmax : d.length ≤ 9223372036854775807 := by
    obtain ⟨a, b, off, cap, vs, h1, h2, _⟩ := h
    unfold maxLen at h2; exact h2
  have H0 : Hid _ := h
  clear h
  go_enter Try.func3, Try.ntmps3
  go_wp2_with fail
  refine (bytes9 B w _ d H0.out).mono ?_
  rintro e w' ⟨⟨b0, rfl⟩, rfl⟩
  cases b0 with
  | false =>
    go_wp2_with fail
    go_ret
    exact ⟨rfl, Below.refl _ _⟩
  | true =>
  by_cases hn : d.length ≤ 65536
  · go_wp2_with fail
    refine (words_any B w' _ d H0.out).mono ?_
    rintro e w'' ⟨⟨t, rfl, ht⟩, rfl⟩
    by_cases hw : t ≤ 131072
    · have hwd := ht hw
      clear ht
      go_wp2_with fail
      refine (range_any B w'' _ d H0.out).mono ?_
      rintro e w ⟨⟨b1, rfl, hb1⟩, rfl⟩
      cases b1 with
      | false =>
        clear hb1
        go_wp2_with fail
        go_ret
        exact ⟨rfl, Below.refl _ _⟩
      | true =>
        have hr := hb1 rfl
        clear hb1 hw
        go_wp2_with fail
        refine (clone_deps B w _ d H0.out hB hwd).mono ?_
        rintro e w1 ⟨dv, rfl, hb1, hd1⟩
        have hd1' : RowsAt w1.heap.size w1 dv d := hd1.weaken (fun b hb => hb.2)
        clear hd1
        obtain ⟨ad, cd, rfl⟩ : ∃ a cap, dv = .slice a d.length cap := by
          obtain ⟨a, b, off, cap, vs, h1, _⟩ := hd1'
          exact ⟨a, cap, h1⟩
        have HB1 : Hid _ := hb1
        have HD1 : Hid _ := hd1'
        clear hb1 hd1' H0
        go_wp2_with fail
        refine (zzgroups_any w1.heap.size w1 _ d HD1.out (Nat.le_refl _) hn hwd hr).mono ?_
        rintro e w2 ⟨gv, s, rfl, hi1, hi2, hwk, hpre, hdf, hb2, hg2⟩
        have hks : KS (grOf d) s.grs s.pre s.fin := ks_of hi1 hi2 hwk hpre
        generalize s.grs = gs at hks hg2
        generalize s.pre = pre at hks hdf
        generalize s.fin = fin at hks hdf
        have hgl : gs.length ≤ d.length := grs_le2 hks.scc
        have HDF : Hid _ := hdf
        clear hi1 hi2 hwk hpre hdf
        have hg2' : RowsAt w2.heap.size w2 gv (gs.map ns) := hg2.weaken (fun b hb => hb.2)
        have HKS : Hid _ := hks
        have HG2 : Hid _ := hg2'
        have HB2 : Hid _ := hb2
        have HD2 : Hid (RowsAt w2.heap.size w2 (.slice ad d.length cd) d) := RowsAt.mono (RowsAt.below HD1.out hb2) hb2.size
        obtain ⟨ag, cg, rfl⟩ : ∃ a cap, gv = .slice a gs.length cap := by
          obtain ⟨a, b, off, cap, vs, h1, _⟩ := hg2'
          exact ⟨a, cap, by simpa using h1⟩
        clear hks hg2 hg2' hb2 HD1
        have hmk := makeI d.length (by omega)
        go_upto_region 12 with fail
        go_cut [5] from 53 to 57 (fun s5 wx => Made d.length w2 s5 wx)
        case first =>
          go_region
          all_goals (go_wp2_with fail)
          all_goals go_meet
          all_goals (first | exact made_1 w2 hn (.inl ⟨rfl, rfl⟩) | exact made_1 w2 hn (.inr ⟨rfl, rfl⟩) | exact made_2 w2 hn (.inl ⟨rfl, rfl⟩) | exact made_2 w2 hn (.inr ⟨rfl, rfl⟩) | exact made_3 w2 hn (.inl ⟨rfl, rfl⟩) | exact made_3 w2 hn (.inr ⟨rfl, rfl⟩))
        case rest =>
          obtain ⟨bs, bp, bq, rfl, hbs, hbp, hbq, h1, h2, h3, hvm, hbl⟩ := hcut
          have HV0 : Hid _ := hvm
          have HBC : Hid _ := hbl
          clear hvm hbl
          go_wp2_with fail
          refine dfsLoop w2.heap.size bs bp bq wc d ad cd hn hwd hr hbs hbp hbq h1 h2 h3 (RowsAt.below HD2.out HBC.out) HV0.out ?_
          intros
          rename_i pre' fin' w3 hvm3 hdf3 hb3
          obtain ⟨e1, e2⟩ := DfsTo.unique HDF.out hdf3
          subst e1
          subst e2
          have hb3' : Below w2.heap.size w2 w3 := HBC.out.trans hb3
          have HB3 : Hid _ := hb3'
          have HV3 : Hid _ := hvm3
          have l1 := hvm3.st.lt
          have l2 := hvm3.rp.lt
          have l3 := hvm3.rq.lt
          clear hdf3 hb3 hb3' hvm3 HV0 HBC
          go_wp2_with fail
          have J7 := (row_zs w3 hn).alloc (zs d.length)
          have J8 := row_zs (w3.alloc (zs d.length)) hn
          rw [size_al] at J8
          have HJ7 : Hid (IRow ((w3.alloc (.cells (madeCells #[.int .i64 0] d.length) 3)).alloc (.cells (madeCells #[.int .i64 0] d.length) 3)) w3.heap.size d.length (List.replicate d.length 0)) := J7
          have HJ8 : Hid (IRow ((w3.alloc (.cells (madeCells #[.int .i64 0] d.length) 3)).alloc (.cells (madeCells #[.int .i64 0] d.length) 3)) (w3.heap.size + 1) d.length (List.replicate d.length 0)) := J8
          clear J7 J8
          refine byLoop w3.heap.size bs bp bq w3 _ d pre fin (List.replicate d.length 0) (List.replicate d.length 0) hn l1 l2 l3 HV3.out HKS.out.pnd HKS.out.pmem HKS.out.fnd HKS.out.fmem (((Below.refl _ _).alloc (Nat.le_refl _) _).alloc (by simp) _) HJ7.out HJ8.out (by simp) (by simp) ?_
          intros
          rename_i w4 hb4 r7 r8
          have HB4 : Hid _ := hb4
          have H7 : Hid _ := r7
          have H8 : Hid _ := r8
          have l7 := r7.lt
          have l8 := r8.lt
          have HD4 : Hid (RowsAt w4.heap.size w4 (.slice ad d.length cd) d) := RowsAt.mono (RowsAt.below (RowsAt.below HD2.out HB3.out) (hb4.mono HB3.out.size)) (Nat.le_trans HB3.out.size hb4.size)
          have HG4 : Hid (RowsAt w4.heap.size w4 (.slice ag gs.length cg) (gs.map ns)) := RowsAt.mono (RowsAt.below (RowsAt.below HG2.out HB3.out) (hb4.mono HB3.out.size)) (Nat.le_trans HB3.out.size hb4.size)
          have HC4 : Hid (Below w2.heap.size w2 w4) := HB3.out.trans (hb4.mono HB3.out.size)
          clear hb4 r7 r8 HD2 HG2 HB3 HV3 HJ7 HJ8 l1 l2 l3 HB4
          go_wp2_with fail
          refine (pred_any w4.heap.size w4 _ d HD4.out (Nat.le_refl _) hn hwd hr).mono ?_
          rintro e w5 ⟨sv, pv, st, pr, rfl, hb5, hsv, hpv, hps⟩
          have HB5 : Hid _ := hb5
          have HG5 : Hid (RowsAt w5.heap.size w5 (.slice ag gs.length cg) (gs.map ns)) := RowsAt.mono (RowsAt.below HG4.out hb5) hb5.size
          have HSV : Hid (IntsAt w5.heap.size w5 sv st) := hsv.weaken (fun b hb => hb.2)
          have HPV : Hid (IntsAt w5.heap.size w5 pv pr) := hpv.weaken (fun b hb => hb.2)
          have HPS : Hid _ := hps
          have H75 : Hid (IRow w5 w3.heap.size d.length (fl d.length (nd0 pre))) := IRow.below H7.out hb5 l7
          have H85 : Hid (IRow w5 (w3.heap.size + 1) d.length (fl d.length (nd0 fin))) := IRow.below H8.out hb5 l8
          have HC5 : Hid (Below w2.heap.size w2 w5) := HC4.out.trans (hb5.mono HC4.out.size)
          have l75 : w3.heap.size < w5.heap.size := IRow.lt H75.out
          have l85 : w3.heap.size + 1 < w5.heap.size := IRow.lt H85.out
          clear hb5 hsv hpv hps HD4 HG4 H7 H8 l7 l8 HC4 HB5
          go_wp2_with fail
          refine noneLoop w5.heap.size w5 _ d (List.replicate d.length 0) hn ((Below.refl _ _).alloc (Nat.le_refl _) _) (IRow.made w5 d.length (by unfold maxLen; omega)) (by simp) ?_
          intros
          rename_i w6 hb6 r12
          have HB6 : Hid _ := hb6
          have H12 : Hid _ := r12
          have l12 := r12.lt
          have hmk0 := makeI0 d.length (by omega)
          clear hb6 r12
          go_wp2_with fail
          have hcn : fz d.length (fun _ => -1) = fz d.length (compF gs gs.length) := (comp_none HKS.out.scc).symm
          have hm12 : IRow (w6.alloc (.cells (madeCells #[.int .i64 0] d.length) 3)) w5.heap.size d.length (fz d.length (compF gs gs.length)) := by rw [← hcn]; exact IRow.alloc H12.out _
          have h8r : IntsAt w5.heap.size w5 (.slice (some ⟨w3.heap.size + 1, 0, none⟩) d.length d.length) (fl d.length (nd0 fin)) := by
            have h0 := IRow.read (S := fun b => b < w5.heap.size) H85.out l85
            rw [fl_length] at h0
            exact h0
          have H8R : Hid _ := h8r
          have HM12 : Hid _ := hm12
          clear hm12 h8r hcn
          refine kosLoop w5.heap.size w5 _ d gs pre fin sv pv _ st pr w6.heap.size d.length hn hwd hr HKS.out hgl H8R.out HSV.out HPV.out HPS.out ⟨MOk.top HKS.out, HB6.out.alloc HB6.out.size _, by simp; omega, HM12.out, IRow.made0 w6 d.length (by unfold maxLen; omega), by omega⟩ ?_
          intros
          rename_i w7 hb7 rc
          have HC7 : Hid (Below w2.heap.size w2 w7) := HC5.out.trans (hb7.mono HC5.out.size)
          have HG7 : Hid (RowsAt w7.heap.size w7 (.slice ag gs.length cg) (gs.map ns)) := RowsAt.mono (RowsAt.below HG5.out hb7) hb7.size
          have H77 : Hid (IRow w7 w3.heap.size d.length (fl d.length (nd0 pre))) := IRow.below H75.out hb7 l75
          have H87 : Hid (IRow w7 (w3.heap.size + 1) d.length (fl d.length (nd0 fin))) := IRow.below H85.out hb7 l85
          have HRC : Hid _ := rc
          have lc := rc.lt
          have l77 : w3.heap.size < w7.heap.size := IRow.lt H77.out
          have l87 : w3.heap.size + 1 < w7.heap.size := IRow.lt H87.out
          have hmk2 := makeI (gs.length + 1) (by omega)
          rw [show ((gs.length + 1 : Nat) : Int) = (gs.length : Int) + 1 from by omega] at hmk2
          clear hb7 rc HG5 H75 H85 HC5 l75 l85 HB6 H12 l12 hmk0 H8R HM12 HSV HPV HPS
          generalize hS5 : w5.heap.size = S5 at HRC lc ⊢
          clear hS5
          go_wp2_with fail
          refine cntLoop w7.heap.size S5 w7 _ d gs pre fin (List.replicate (gs.length + 1) 0) hn HKS.out hgl lc HRC.out ((Below.refl _ _).alloc (Nat.le_refl _) _) (IRow.made w7 (gs.length + 1) (by unfold maxLen; omega)) ⟨by simp [gN], by simp [at0], fun v hv => by
            have hv' : v < gs.length := hv
            rw [at0_replicate (by omega)]; simp [cnt]⟩ ?_
          intros
          rename_i st2 w8 hb8 r22 hst2
          have HB8 : Hid _ := hb8
          have H22 : Hid _ := r22
          have HST2 : Hid _ := hst2
          clear hb8 r22 hst2
          go_wp2_with fail
          refine sumLoop w7.heap.size w7 _ gs (EV gs (List.range d.length)) st2 (by omega) (by rw [EV_length]; simp; omega) HB8.out H22.out HST2.out ?_
          intros
          rename_i w9 hb9 ro
          have HC9 : Hid (Below w2.heap.size w2 w9) := HC7.out.trans (hb9.mono HC7.out.size)
          have HG9 : Hid (RowsAt w9.heap.size w9 (.slice ag gs.length cg) (gs.map ns)) := RowsAt.mono (RowsAt.below HG7.out hb9) hb9.size
          have H79 : Hid (IRow w9 w3.heap.size d.length (fl d.length (nd0 pre))) := IRow.below H77.out hb9 l77
          have H89 : Hid (IRow w9 (w3.heap.size + 1) d.length (fl d.length (nd0 fin))) := IRow.below H87.out hb9 l87
          have HC12 : Hid (IRow w9 S5 d.length (fl d.length (Kf gs))) := IRow.below HRC.out hb9 lc
          have HRO : Hid _ := ro
          have lo := ro.lt
          have l79 : w3.heap.size < w9.heap.size := IRow.lt H79.out
          have l89 : w3.heap.size + 1 < w9.heap.size := IRow.lt H89.out
          have lc9 : S5 < w9.heap.size := IRow.lt HC12.out
          have hmk3 := makeI gs.length (by omega)
          clear hb9 ro HC7 HG7 H77 H87 HRC lc l77 l87 HB8 H22 HST2 hmk2
          generalize hS7 : w7.heap.size = S7 at HRO lo ⊢
          clear hS7
          go_wp2_with fail
          refine fillLoop w9.heap.size S7 w9 _ gs (EV gs (List.range d.length)) (List.replicate gs.length 0) (by omega) (by rw [EV_length]; simp; omega) lo HRO.out ((Below.refl _ _).alloc (Nat.le_refl _) _) (IRow.made w9 gs.length (by unfold maxLen; omega)) (by simp) ?_
          intros
          rename_i nx w10 hb10 r25 hnx
          have HB10 : Hid _ := hb10
          have H25 : Hid _ := r25
          have HNX : Hid _ := hnx
          have l25 := r25.lt
          clear hb10 r25 hnx hmk3
          go_wp2_with fail
          refine memLoop w9.heap.size w10.heap.size w3.heap.size S5 w9 _ d gs pre fin nx (List.replicate d.length 0) hn HKS.out hgl l79 lc9 l25 H79.out HC12.out (HB10.out.alloc HB10.out.size _) (IRow.alloc H25.out _) HNX.out (IRow.made w10 d.length (by unfold maxLen; omega)) (by simp) ?_
          intros
          rename_i pr1 w11 hb11 rm hpl hly
          have HC11 : Hid (Below w2.heap.size w2 w11) := HC9.out.trans (hb11.mono HC9.out.size)
          have HG11 : Hid (RowsAt w11.heap.size w11 (.slice ag gs.length cg) (gs.map ns)) := RowsAt.mono (RowsAt.below HG9.out hb11) hb11.size
          have H811 : Hid (IRow w11 (w3.heap.size + 1) d.length (fl d.length (nd0 fin))) := IRow.below H89.out hb11 l89
          have HC1211 : Hid (IRow w11 S5 d.length (fl d.length (Kf gs))) := IRow.below HC12.out hb11 lc9
          have HRO11 : Hid (IRow w11 S7 (gs.length + 1) (fl (gs.length + 1) (below (EV gs (List.range d.length))))) := IRow.below HRO.out hb11 lo
          have HRM : Hid _ := rm
          have HPL : Hid _ := hpl
          have HLY : Hid _ := hly
          clear hb11 rm hpl hly HC9 HG9 H79 H89 HC12 HRO lo l79 l89 lc9 HB10 H25 HNX l25
          go_wp2_with fail
          refine cmpLoop w11.heap.size (w3.heap.size + 1) S5 S7 w10.heap.size w11 d gs pre fin ag cg pr1 hn HKS.out hgl HG11.out H811.out HC1211.out HRO11.out HRM.out HPL.out HLY.out ?_
          intros
          rename_i q
          have HK : Hid (Below w.heap.size w (w11.drewN q)) := below_drewN2 (below_chain2 (below_chain2 HB1.out HB2.out) HC11.out)
          have tt : ((gs.length : Int) == (gs.length : Int)) = true := by simp
          go_wp2
          go_ret
          exact ⟨rfl, HK.out⟩
    · clear ht
      go_wp2_with fail
      go_ret
      exact ⟨rfl, Below.refl _ _⟩
  · go_wp2_with fail
    go_ret
    exact ⟨rfl, Below.refl _ _⟩

end Go.Proofs.Qxb6603026a
