/-
  The recursive dfsOrders.visit (function 14): its contract.
-/
import Derived.Test.Qxb6603026aKosDfs
import Derived.Test.Qxb6603026aGRel
import Derived.Test.Qxb6603026aBase
import Derived.Test.Qxb6603026aRead
import Derived.RegionTactic
import Derived.BigRegion
import Derived.BigQuiet
import Derived.Deep.QuietTactic
import Derived.StillTactics
import Derived.StillTailTactics
namespace Go.Proofs.Qxb6603026a
open Go.RowKit
set_option linter.unusedSimpArgs false
set_option linter.unusedVariables false

/-- the walk's struct (block bs), its two rows -/
structure VM (n bs bp bq : Nat) (pre fin : List Nat) (w : World) : Prop where
  st : Row w 28 4 bs 1 1 [.slice (some ⟨bp, 0, none⟩) n n, .slice (some ⟨bq, 0, none⟩) n n, .int .i64 ((pre.length : Nat) : Int), .int .i64 ((fin.length : Nat) : Int)]
  rp : IRow w bp n (fl n (ordOf pre))
  rq : IRow w bq n (fl n (ordOf fin))

theorem VM.drewN {n bs bp bq : Nat} {pre fin : List Nat} {w : World} (h : VM n bs bp bq pre fin w) (q : Nat) : VM n bs bp bq pre fin (w.drewN q) := ⟨h.st.drewN q, h.rp.drewN q, h.rq.drewN q⟩
theorem VM.drew {n bs bp bq : Nat} {pre fin : List Nat} {w : World} (h : VM n bs bp bq pre fin w) : VM n bs bp bq pre fin w.drew := ⟨h.st.drew, h.rp.drew, h.rq.drew⟩
theorem VM.c0 {n bs bp bq : Nat} {pre fin : List Nat} {w : World} (h : VM n bs bp bq pre fin w) : w.cell? ⟨bs, 0, none⟩ = some (.slice (some ⟨bp, 0, none⟩) n n) := by rw [h.st.cell (by omega)]; rfl
theorem VM.c1 {n bs bp bq : Nat} {pre fin : List Nat} {w : World} (h : VM n bs bp bq pre fin w) : w.cell? ⟨bs, 1, none⟩ = some (.slice (some ⟨bq, 0, none⟩) n n) := by rw [h.st.cell (by omega)]; rfl
theorem VM.c2 {n bs bp bq : Nat} {pre fin : List Nat} {w : World} (h : VM n bs bp bq pre fin w) : w.cell? ⟨bs, 2, none⟩ = some (.int .i64 ((pre.length : Nat) : Int)) := by rw [h.st.cell (by omega)]; rfl
theorem VM.c3 {n bs bp bq : Nat} {pre fin : List Nat} {w : World} (h : VM n bs bp bq pre fin w) : w.cell? ⟨bs, 3, none⟩ = some (.int .i64 ((fin.length : Nat) : Int)) := by rw [h.st.cell (by omega)]; rfl

theorem fl_set_ord {n i : Nat} {p : List Nat} {z : Int} (hi : i < n) (hnew : i ∉ p) (hz : z = ((p.length + 1 : Nat) : Int)) : (fl n (ordOf p)).set i z = fl n (ordOf (p ++ [i])) := by
  subst hz
  rw [fl_set]
  refine fl_congr (fun v hv => ?_)
  by_cases e : v = i
  · subst e; rw [upd_self]; exact (ordOf_append_new hnew).symm
  · rw [upd_other e]; exact (ordOf_append_old e).symm

theorem VM.enter {n bs bp bq i : Nat} {pre fin : List Nat} {w : World} {z : Int} (h : VM n bs bp bq pre fin w) (h1 : bs ≠ bp) (h2 : bs ≠ bq) (h3 : bp ≠ bq) (hi : i < n) (hnew : i ∉ pre) (hz : z = ((pre.length + 1 : Nat) : Int)) :
    VM n bs bp bq (pre ++ [i]) fin ((w.setCell ⟨bs, 2, none⟩ (.int .i64 z)).setCell ⟨bp, i, none⟩ (.int .i64 z)) := by
  have e := fl_set_ord hi hnew hz
  refine ⟨?_, ?_, ?_⟩
  · have := (h.st.set 2 (.int .i64 z)).other (a := ⟨bp, i, none⟩) (fun e => h1 e.symm) (.int .i64 z)
    have hl : (pre ++ [i]).length = pre.length + 1 := by simp
    rw [hl, ← hz]; exact this
  · have := (h.rp.other (a := ⟨bs, 2, none⟩) h1 (.int .i64 z)).set i z
    rwa [e] at this
  · exact (h.rq.other (a := ⟨bs, 2, none⟩) h2 (.int .i64 z)).other (a := ⟨bp, i, none⟩) h3 _
theorem VM.leave {n bs bp bq i : Nat} {pre fin : List Nat} {w : World} {z : Int} (h : VM n bs bp bq pre fin w) (h1 : bs ≠ bp) (h2 : bs ≠ bq) (h3 : bp ≠ bq) (hi : i < n) (hnew : i ∉ fin) (hz : z = ((fin.length + 1 : Nat) : Int)) :
    VM n bs bp bq pre (fin ++ [i]) ((w.setCell ⟨bs, 3, none⟩ (.int .i64 z)).setCell ⟨bq, i, none⟩ (.int .i64 z)) := by
  have e := fl_set_ord hi hnew hz
  refine ⟨?_, ?_, ?_⟩
  · have := (h.st.set 3 (.int .i64 z)).other (a := ⟨bq, i, none⟩) (fun e => h2 e.symm) (.int .i64 z)
    have hl : (fin ++ [i]).length = fin.length + 1 := by simp
    rw [hl, ← hz]; exact this
  · exact (h.rp.other (a := ⟨bs, 3, none⟩) h1 (.int .i64 z)).other (a := ⟨bq, i, none⟩) (fun e => h3 e.symm) _
  · have := (h.rq.other (a := ⟨bs, 3, none⟩) h2 (.int .i64 z)).set i z
    rwa [e] at this

def Went (g : Gr) (B n bs bp bq : Nat) (pre fin : List Nat) (i : Nat) (w : World) (e : Ending) (w' : World) : Prop :=
  e = .returned (.tuple #[]) ∧ ∃ pre' fin', VM n bs bp bq pre' fin' w' ∧ VP n pre' fin' ∧ VRun g i pre fin pre' fin' ∧ Below B w w'

def VRel (g : Gr) (B n bs bp bq : Nat) (pre fin : List Nat) (i : Nat) (w0 : World) (kv : Value) (w : World) : Prop :=
  ∃ (k : Nat) (pre1 fin1 : List Nat), k ≤ g.deg i ∧ kv = .int .i64 (k : Int) ∧ VM n bs bp bq pre1 fin1 w ∧ VIn g n i pre fin k pre1 fin1 ∧ Below B w0 w

set_option maxRecDepth 100000 in
set_option maxHeartbeats 2000000 in
theorem visitRec_any (B bs bp bq : Nat) (d : List (List Int)) (v : Value) (hn : d.length ≤ 65536) (hw : wordsOf d ≤ 131072) (hr : InRange d)
    (hbs : B ≤ bs) (hbp : B ≤ bp) (hbq : B ≤ bq) (h1 : bs ≠ bp) (h2 : bs ≠ bq) (h3 : bp ≠ bq) :
    ∀ (m : Nat) (pre fin : List Nat) (i : Nat) (w : World), d.length - pre.length ≤ m → RowsAt B w v d → VM d.length bs bp bq pre fin w → VP d.length pre fin → i < d.length → i ∉ pre →
      Calls Try.prog 14 #[.pointer (some ⟨bs, 0, none⟩), v, .int .i64 (i : Int)] w fun e w' => Went (grOf d) B d.length bs bp bq pre fin i w e w' := by
  intro m
  induction m with
  | zero =>
    intro pre fin i w hm hd hv hp hi hnew
    have h9 := (VIn.start (g := grOf d) hp hi hnew).vp.pre_le
    simp at h9; omega
  | succ m ih =>
    intro pre fin i w hm hd hv hp hi hnew
    have hpl := (VIn.start (g := grOf d) hp hi hnew).vp.pre_le
    simp at hpl
    have hfl := hp.len
    have HD : Hid _ := hd
    have HV : Hid _ := hv
    have HP : Hid _ := hp
    have HNEW : Hid _ := hnew
    have HIH : Hid _ := ih
    obtain ⟨a, b, off, cap, vs, rfl, hmax, ha, hc⟩ := hd
    obtain ⟨hpa, hbB⟩ := ha (by omega)
    subst hpa
    obtain ⟨hcv, a1, b1, off1, cap1, hv1, hm1, ha1, hc1⟩ := hc i hi
    rw [hv1] at hcv
    have hrl := row_le hw hi
    have c2 := hv.c2
    have f2 := hv.st.frozen 2
    have i0 : (0 : Int) ≤ (i : Int) := by omega
    have i1 : (i : Int) < (d.length : Int) := by omega
    clear ih hv hp hnew ha hc hmax hm1 hv1
    go_enter Try.func14, Try.ntmps14
    go_wp2
    refine at_world (fun w1 => w1.cell? ⟨bs, 0, none⟩ = some (.slice (some ⟨bp, 0, none⟩) d.length d.length) ∧ w1.cell? ⟨bs, 2, none⟩ = some (.int .i64 ((pre.length : Int) + 1)) ∧ IRow w1 bp d.length (fl d.length (ordOf pre)) ∧ VM d.length bs bp bq (pre ++ [i]) fin (w1.setCell ⟨bp, i, none⟩ (.int .i64 ((pre.length : Int) + 1))) ∧ Below B w w1) ⟨?_, ?_, HV.out.rp.other (a := ⟨bs, 2, none⟩) h1 _, HV.out.enter h1 h2 h3 hi HNEW.out (by omega), (Below.refl B w).setCell hbs _⟩ ?_
    · rw [(HV.out.st.set 2 (.int .i64 ((pre.length : Int) + 1))).cell (by omega)]; rfl
    · rw [(HV.out.st.set 2 (.int .i64 ((pre.length : Int) + 1))).cell (by omega)]; rfl
    clear c2 f2
    rintro w1 ⟨k0, k2, RP, V1, B1⟩
    have hmx : Try.prog.follows .mixedOrders = true := by kernel_rfl
    have r1 := RP.cell (j := i) (by rw [fl_length]; exact hi)
    have r2 := RP.frozen i
    have HV1 : Hid _ := V1
    have HB1 : Hid _ := B1
    clear V1 B1 RP
    go_still_tail 10, hmx
    have hbne : b ≠ bp := by omega
    have hcv1 := (HB1.out.cell (p := ⟨b, off + i, none⟩) (by exact hbB)).trans hcv
    clear hcv k0 k2
    go_wp2_with fail
    go_loopw [7] (fun kv w' => VRel (grOf d) B d.length bs bp bq pre fin i w kv w') (fun kv _ => (row0 d i).length - (intOf kv).toNat)
    case atStart => exact ⟨0, pre ++ [i], fin, Nat.zero_le _, rfl, HV1.out.drew, VIn.start HP.out hi HNEW.out, (HB1.out.setCell hbp _).drew⟩
    case round =>
      clear HV1 HB1 hcv1 r1 r2
      obtain ⟨k, pre1, fin1, hk1, rfl, V, I, BL⟩ := hrel
      have hk1' : k ≤ (row0 d i).length := hk1
      have c0 := V.c0
      by_cases hlk : k < (row0 d i).length
      · obtain ⟨hp1, hbB1⟩ := ha1 (by omega)
        cases hp1
        have hck := (BL.cell (p := ⟨b1, off1 + k, none⟩) (by exact hbB1)).trans (hc1 k hlk)
        have hj := hr i hi k hlk
        obtain ⟨j, HJ⟩ : ∃ j : Nat, at0 (row0 d i) k = (j : Int) := ⟨(at0 (row0 d i) k).toNat, by omega⟩
        rw [HJ] at hck hj
        have hjn : j < d.length := by omega
        have hnx : (grOf d).nx i k = j := by show (at0 (row0 d i) k).toNat = j; rw [HJ]; simp
        have HN : Hid _ := hnx
        have hrj := V.rp.cell (j := j) (by rw [fl_length]; exact hjn)
        rw [at0_fl _ hjn] at hrj
        have j0 : (0 : Int) ≤ (j : Int) := by omega
        have j1 : (j : Int) < (d.length : Int) := by omega
        have HVV : Hid _ := V
        have HI : Hid _ := I
        have HBL : Hid _ := BL
        clear V I BL hnx HJ hj hc1 ha1
        by_cases hjp : j ∈ pre1
        · have t1 : ((ordOf pre1 j : Int) == 0) = false := by
            have := ordOf_pos.2 hjp
            rw [beq_eq_false_iff_ne]; omega
          have HJP : Hid _ := hjp
          clear hjp
          go_wp2
          go_quiet (fail)
          generalize nq = n1
          go_wp2
          go_roundw
          case rel => exact ⟨k + 1, pre1, fin1, hlk, by go_num, HVV.out.drewN _, HI.out.old hlk (by rw [HN.out]; exact HJP.out), ⟨HBL.out.os, HBL.out.tape, HBL.out.output, HBL.out.size, HBL.out.block⟩⟩
          case measure => simp [intOf]; omega
        · have t1 : ((ordOf pre1 j : Int) == 0) = true := by
            rw [ordOf_zero.2 hjp]; rfl
          have HJP : Hid _ := hjp
          clear hjp
          go_wp2
          go_quiet (fail)
          generalize nq = n1
          go_wp2_with fail
          have BQ : Below B w (wr.drewN n1) := ⟨HBL.out.os, HBL.out.tape, HBL.out.output, HBL.out.size, HBL.out.block⟩
          obtain ⟨tl, htl⟩ := HI.out.tl
          have hlen : pre1.length = pre.length + (tl.length + 1) := by rw [htl]; simp
          refine (HIH.out pre1 fin1 j (wr.drewN n1) (by omega) (RowsAt.below HD.out BQ) (HVV.out.drewN _) HI.out.vp hjn HJP.out).mono ?_
          rintro e w2 ⟨rfl, pre2, fin2, V2, P2, R2, B2⟩
          have I2 : Hid (VIn (grOf d) d.length i pre fin (k + 1) pre2 fin2) := HI.out.call hlk (by rw [HN.out]; exact HJP.out) (by rw [HN.out]; exact R2) P2
          have HV2 : Hid _ := V2
          have HB2 : Hid (Below B w w2) := BQ.trans B2
          clear BQ V2 B2 R2 P2 HI htl
          go_wp2
          go_roundw
          case rel => exact ⟨k + 1, pre2, fin2, hlk, by go_num, HV2.out, I2.out, HB2.out⟩
          case measure => simp [intOf]; omega
      · have hk' : k = (row0 d i).length := by omega
        subst hk'
        have c3 := V.c3
        have f3 := V.st.frozen 3
        have hfl1 := I.vp.len
        have hpl1 := I.vp.pre_le
        have HVV : Hid _ := V
        have HI : Hid _ := I
        have HBL : Hid _ := BL
        have hnf := I.not_fin
        have HNF : Hid _ := hnf
        clear V I BL hc1 ha1 hnf c0
        go_wp2
        refine at_world (fun w1 => w1.cell? ⟨bs, 1, none⟩ = some (.slice (some ⟨bq, 0, none⟩) d.length d.length) ∧ w1.cell? ⟨bs, 3, none⟩ = some (.int .i64 ((fin1.length : Int) + 1)) ∧ IRow w1 bq d.length (fl d.length (ordOf fin1)) ∧ VM d.length bs bp bq pre1 (fin1 ++ [i]) (w1.setCell ⟨bq, i, none⟩ (.int .i64 ((fin1.length : Int) + 1))) ∧ Below B w w1) ⟨?_, ?_, HVV.out.rq.other (a := ⟨bs, 3, none⟩) h2 _, HVV.out.leave h1 h2 h3 hi HNF.out (by omega), HBL.out.setCell hbs _⟩ ?_
        · rw [(HVV.out.st.set 3 (.int .i64 ((fin1.length : Int) + 1))).cell (by omega)]; rfl
        · rw [(HVV.out.st.set 3 (.int .i64 ((fin1.length : Int) + 1))).cell (by omega)]; rfl
        clear c3 f3 HVV HBL
        rintro w2 ⟨k1, k3, RQ, V2, B2⟩
        have hmx : Try.prog.follows .mixedOrders = true := by kernel_rfl
        have r1 := RQ.cell (j := i) (by rw [fl_length]; exact hi)
        have r2 := RQ.frozen i
        have D := HI.out.done HP.out.len
        have R : Hid (∀ e, e = Ending.returned (.tuple #[]) → Went (grOf d) B d.length bs bp bq pre fin i w e (w2.setCell ⟨bq, i, none⟩ (.int .i64 ((fin1.length : Int) + 1))).drew) := fun e he => ⟨he, pre1, fin1 ++ [i], V2.drew, D.1, D.2, (B2.setCell hbq _).drew⟩
        clear V2 B2 RQ D
        go_still_tail 10, hmx
        go_wp2
        go_end0
        exact R.out _ rfl

end Go.Proofs.Qxb6603026a
