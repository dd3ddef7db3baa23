/-
  predecessors (function 15): its contract.
-/
import Derived.Test.Qxb6603026aPredPure
import Derived.Test.Qxb6603026aBase
import Derived.Test.Qxb6603026aRead
import Derived.StillTailTactics
import Derived.RegionTactic
import Derived.BigRegion
import Derived.Outline
namespace Go.Proofs.Qxb6603026a
open Go.RowKit
set_option linter.unusedSimpArgs false

/-- the counts so far -/
def StartOk (g : Gr) (P : List (Nat × Nat)) (st : List Int) : Prop := st.length = g.n + 1 ∧ at0 st 0 = 0 ∧ ∀ v, v < g.n → at0 st (v + 1) = (cnt P v : Int)
/-- the sums so far -/
def PrefOk (g : Gr) (T : List (Nat × Nat)) (r : Nat) (st : List Int) : Prop := st.length = g.n + 1 ∧ (∀ v, v ≤ r → at0 st v = (below T v : Int)) ∧ ∀ v, r ≤ v → v < g.n → at0 st (v + 1) = (cnt T v : Int)
/-- the places so far -/
def NextOk (g : Gr) (T P : List (Nat × Nat)) (nx : List Int) : Prop := nx.length = g.n ∧ ∀ v, v < g.n → at0 nx v = ((below T v + cnt P v : Nat) : Int)

theorem StartOk.step {g : Gr} {P : List (Nat × Nat)} {st : List Int} (h : StartOk g P st) {i j : Nat} (hj : j < g.n) : at0 st (j + 1) = (cnt P j : Int) ∧ StartOk g (P ++ [(i, j)]) (st.set (j + 1) ((cnt P j : Int) + 1)) := by
  obtain ⟨h1, h2, h3⟩ := h
  refine ⟨h3 j hj, by simpa using h1, by rw [at0_set_other (by omega)]; exact h2, fun v hv => ?_⟩
  rw [cnt_snoc]
  by_cases e : v = j
  · subst e; rw [at0_set_self (by omega), if_pos rfl]; omega
  · rw [at0_set_other (by omega), if_neg e, h3 v hv]; omega
theorem StartOk.pref {g : Gr} {T : List (Nat × Nat)} {st : List Int} (h : StartOk g T st) : PrefOk g T 0 st := by
  obtain ⟨h1, h2, h3⟩ := h
  refine ⟨h1, fun v hv => ?_, fun v _ hv => h3 v hv⟩
  have : v = 0 := by omega
  subst this; rw [h2, below_zero]; rfl
theorem PrefOk.step {g : Gr} {T : List (Nat × Nat)} {r : Nat} {st : List Int} (h : PrefOk g T r st) (hr : r < g.n) {z : Int} (hz : z = (cnt T r : Int) + (below T r : Int)) : PrefOk g T (r + 1) (st.set (r + 1) z) := by
  obtain ⟨h1, h2, h3⟩ := h
  refine ⟨by simpa using h1, fun v hv => ?_, fun v hv hv' => ?_⟩
  · by_cases e : v = r + 1
    · subst e; rw [at0_set_self (by omega), below_succ, hz]; omega
    · rw [at0_set_other e]; exact h2 v (by omega)
  · rw [at0_set_other (by omega)]; exact h3 v (by omega) hv'
theorem PrefOk.done {g : Gr} {T : List (Nat × Nat)} {st : List Int} (h : PrefOk g T g.n st) : st = fl (g.n + 1) (below T) := by
  obtain ⟨h1, h2, _⟩ := h
  apply at0_ext (by rw [h1, fl_length])
  intro k hk
  rw [h1] at hk
  rw [at0_fl _ hk]
  exact h2 k (by omega)
theorem NextOk.step {g : Gr} {T P : List (Nat × Nat)} {nx : List Int} (h : NextOk g T P nx) {i j : Nat} (hj : j < g.n) {z : Int} (hz : z = ((below T j + cnt P j : Nat) : Int) + 1) : NextOk g T (P ++ [(i, j)]) (nx.set j z) := by
  obtain ⟨h1, h2⟩ := h
  refine ⟨by simpa using h1, fun v hv => ?_⟩
  rw [cnt_snoc]
  by_cases e : v = j
  · subst e; rw [at0_set_self (by omega), if_pos rfl, hz]; omega
  · rw [at0_set_other e, if_neg e, h2 v hv]; omega

def PredSaid (d : List (List Int)) (w : World) (e : Ending) (w' : World) : Prop :=
  ∃ sv pv st pr, e = .returned (.tuple #[sv, pv]) ∧ Below w.heap.size w w' ∧ IntsIn (fun b => w.heap.size ≤ b ∧ b < w'.heap.size) w' sv st ∧ IntsIn (fun b => w.heap.size ≤ b ∧ b < w'.heap.size) w' pv pr ∧ PredSpec (grOf d) st pr

theorem edgesTo_words (d : List (List Int)) : ∀ k, wordsTo d k = d.length + (edgesTo (grOf d) k).length
  | 0 => rfl
  | k + 1 => by
    rw [wordsTo, edgesTo_words d k, edgesTo, List.length_append, rowEdges_length]
    show _ + (row0 d k).length = _ + (_ + (row0 d k).length)
    omega

set_option maxRecDepth 100000 in
set_option maxHeartbeats 2000000 in
theorem pred_any (B : Nat) (w : World) (dv : Value) (d : List (List Int)) (hd : RowsAt B w dv d) (hB : B ≤ w.heap.size) (hn : d.length ≤ 65536) (hw : wordsOf d ≤ 131072) (hr : InRange d) :
    Calls Try.prog 15 #[dv] w fun e w' => PredSaid d w e w' := by
  obtain ⟨T, hT0⟩ : ∃ T, T = edgesTo (grOf d) (grOf d).n := ⟨_, rfl⟩
  have hTl : T.length ≤ 131072 := by
    have := edgesTo_words d d.length
    unfold wordsOf at hw
    rw [hT0]
    show (edgesTo (grOf d) d.length).length ≤ _
    omega
  have HT : Hid (T = edgesTo (grOf d) (grOf d).n) := hT0
  clear hT0
  have hgone : ∀ i k, i < d.length → k ≤ (row0 d i).length → ∃ F, T = gone (grOf d) i k ++ F := fun i k hi hk => by rw [HT.out]; exact gone_head hi hk
  have HGo : Hid _ := hgone
  clear hgone
  have hrow : ∀ i, i < d.length → ∀ k, k < (row0 d i).length → ∃ j : Nat, at0 (row0 d i) k = (j : Int) ∧ j < d.length ∧ (grOf d).nx i k = j := fun i hi k hk => by
    have := hr i hi k hk
    exact ⟨(at0 (row0 d i) k).toNat, by omega, by omega, rfl⟩
  have HR : Hid _ := hrow
  have HRL : Hid (∀ i, i < d.length → (row0 d i).length ≤ 131072) := fun i hi => by
    have h1 := wordsTo_mono d (j := i + 1) (k := d.length) (by omega)
    simp only [wordsTo] at h1
    unfold wordsOf at hw
    omega
  clear hrow hw hr
  obtain ⟨a, b, off, cap, vs, rfl, hmax, ha, hc⟩ := hd
  have hmk := makeI (d.length + 1) (by omega)
  rw [show ((d.length + 1 : Nat) : Int) = (d.length : Int) + 1 from by omega] at hmk
  go_enter Try.func15, Try.ntmps15
  go_wp2
  go_loopw [6] (fun iv wr => ∃ i : Nat, ∃ st : List Int, i ≤ d.length ∧ iv = .int .i64 i ∧ Below w.heap.size w wr ∧ IRow wr w.heap.size (d.length + 1) st ∧ StartOk (grOf d) (gone (grOf d) i 0) st) (fun iv _ => d.length - (intOf iv).toNat)
  case atStart =>
    exact ⟨0, _, Nat.zero_le _, rfl, (Below.refl _ _).alloc (Nat.le_refl _) _, IRow.made w (d.length + 1) (by unfold maxLen; omega), by simp [grOf], by simp [at0], fun v hv => by
      have hv' : v < d.length := hv
      rw [at0_replicate (by omega)]; rfl⟩
  case round =>
    obtain ⟨i, st, hi1, rfl, hbl, hrw, HS⟩ := hrel
    have HS : Hid (StartOk (grOf d) (gone (grOf d) i 0) st) := HS
    by_cases hlt : i < d.length
    · obtain ⟨hp, hbB⟩ := ha (by omega)
      obtain ⟨hcv, a1, b1, off1, cap1, hv1, hm1, ha1, hc1⟩ := hc i hlt
      have hcell := (hbl.cell (p := ⟨b, off + i, none⟩) (by exact Nat.lt_of_lt_of_le hbB hB)).trans hcv
      rw [hv1] at hcell
      have hrl := HRL.out i hlt
      cases hp
      clear ha hcv hmk
      go_wp2
      go_loopw [8] (fun kv wr => ∃ k : Nat, ∃ st : List Int, k ≤ (row0 d i).length ∧ kv = .int .i64 k ∧ Below w.heap.size w wr ∧ IRow wr w.heap.size (d.length + 1) st ∧ StartOk (grOf d) (gone (grOf d) i k) st) (fun kv _ => (row0 d i).length - (intOf kv).toNat)
      case atStart => exact ⟨0, st, Nat.zero_le _, rfl, hbl, hrw, HS.out⟩
      case round =>
        clear HS hbl hrw hcell
        obtain ⟨k, st2, hk1, rfl, hbl, hrw, HS⟩ := hrel
        have HS : Hid (StartOk (grOf d) (gone (grOf d) i k) st2) := HS
        by_cases hlk : k < (row0 d i).length
        · obtain ⟨hp1, hbB1⟩ := ha1 (by omega)
          cases hp1
          obtain ⟨j, hj1, hj2, hj3⟩ := HR.out i hlt k hlk
          have hck := (hbl.cell (p := ⟨b1, off1 + k, none⟩) (by exact Nat.lt_of_lt_of_le hbB1 hB)).trans (hc1 k hlk)
          rw [hj1] at hck
          obtain ⟨hs1, hs2⟩ := HS.out.step (i := i) (j := j) hj2
          obtain ⟨F, hF⟩ := HGo.out i k hlt (by omega)
          have hcl : cnt (gone (grOf d) i k) j ≤ 131072 := by
            have h1 := cnt_le_len (gone (grOf d) i k) j
            have h2 := congrArg List.length hF
            rw [List.length_append] at h2
            omega
          have hrc := hrw.cell (j := j + 1) (by have := HS.out.1; have : (grOf d).n = d.length := rfl; omega)
          rw [hs1] at hrc
          have hfz := hrw.frozen (j + 1)
          have j0 : (0 : Int) ≤ (j : Int) := by omega
          have j1 : (j : Int) + 1 < (d.length : Int) + 1 := by omega
          have HS2 : Hid _ := hs2
          have HJ3 : Hid _ := hj3
          clear hs2 hj3 hj1 hs1 hF hc hc1 ha1
          go_wp2
          go_roundw
          case rel => exact ⟨k + 1, _, by omega, by go_num, hbl.setCell (Nat.le_refl _) _, hrw.set _ _, by rw [gone_step, HJ3.out]; exact HS2.out⟩
          case measure => simp [intOf]; omega
        · have hk' : k = (row0 d i).length := by omega
          subst hk'
          go_wp2
          go_roundw
          case rel => exact ⟨i + 1, st2, by omega, by go_num, hbl, hrw, by rw [gone_next]; exact HS.out⟩
          case measure => simp [intOf]; omega
    · have hi' : i = d.length := by omega
      subst hi'
      have hs0 : StartOk (grOf d) T st := by
        have h1 := HS.out
        rw [show gone (grOf d) d.length 0 = T by rw [HT.out]; simp [gone, rowEdges]; rfl] at h1
        exact h1
      have HP0 : Hid (PrefOk (grOf d) T 0 st) := hs0.pref
      clear hs0 HS hmk
      go_wp2
      go_loopw [9] (fun rv wr => ∃ r : Nat, ∃ st : List Int, r ≤ d.length ∧ rv = .int .i64 r ∧ Below w.heap.size w wr ∧ IRow wr w.heap.size (d.length + 1) st ∧ PrefOk (grOf d) T r st) (fun rv _ => d.length - (intOf rv).toNat)
      case atStart => exact ⟨0, st, Nat.zero_le _, rfl, hbl, hrw, HP0.out⟩
      case round =>
        clear HP0 hbl hrw
        obtain ⟨r, st2, hr1, rfl, hbl, hrw, HP⟩ := hrel
        have HP : Hid (PrefOk (grOf d) T r st2) := HP
        by_cases hlr : r < d.length
        · have hst2 : st2.length = d.length + 1 := HP.out.1
          have e1 := hrw.cell (j := r + 1) (by omega)
          have e2 := hrw.cell (j := r) (by omega)
          rw [HP.out.2.2 r (Nat.le_refl _) hlr] at e1
          rw [HP.out.2.1 r (Nat.le_refl _)] at e2
          have hfz := hrw.frozen (r + 1)
          have b1 := below_le T r
          have b2 := cnt_le_len T r
          have r0 : (0 : Int) ≤ (r : Int) := by omega
          have r1 : (r : Int) + 1 < (d.length : Int) + 1 := by omega
          have r2 : (r : Int) < (d.length : Int) + 1 := by omega
          have hmx : Try.prog.follows .mixedOrders = true := by kernel_rfl
          have HST : Hid _ := hst2
          clear hst2 ha hc
          go_wp2_with fail
          go_region
          go_wp2
          go_roundw
          case rel => exact ⟨r + 1, _, by omega, by go_num, (hbl.setCell (Nat.le_refl _) _).drew, (hrw.set _ _).drew, HP.out.step hlr rfl⟩
          case measure => simp [intOf]; omega
        · have hr' : r = d.length := by omega
          subst hr'
          have hst := PrefOk.done HP.out
          subst hst
          have hmk2 := makeI d.length (by omega)
          clear HP
          have bn := below_le T d.length
          have hbe : at0 (fl (d.length + 1) (below T)) d.length = ((below T d.length : Nat) : Int) := at0_fl _ (by omega)
          go_wp2
          have hS1 : w.heap.size < wr.heap.size := hrw.lt
          have hi0 := hrw.alloc (.cells (madeCells #[.int .i64 0] d.length) 3)
          have hi1' := IRow.made wr d.length (by unfold maxLen; omega)
          have hi2 := hbl.alloc hbl.size (.cells (madeCells #[.int .i64 0] d.length) 3)
          generalize hS : wr.heap.size = S1 at hS1 hi1' ⊢
          have HSS : Hid _ := hS
          clear hS hmk2
          go_loopw [11] (fun kv w3 => ∃ k : Nat, ∃ nx : List Int, k ≤ d.length ∧ kv = .int .i64 k ∧ Below w.heap.size w w3 ∧ IRow w3 w.heap.size (d.length + 1) (fl (d.length + 1) (below T)) ∧ IRow w3 S1 d.length nx ∧ nx.length = d.length ∧ ∀ v, v < k → at0 nx v = (below T v : Int)) (fun kv _ => d.length - (intOf kv).toNat)
          case atStart => exact ⟨0, _, Nat.zero_le _, rfl, hi2, hi0, hi1', by simp, fun v hv => by omega⟩
          case round =>
            clear hi0 hi1' hi2 hbl hrw HSS
            obtain ⟨k, nx, hk1, rfl, hbl, hrw, hnw, hnl, hnv⟩ := hrel
            have HNL : Hid _ := hnl
            have HNV : Hid _ := hnv
            clear hnl hnv
            by_cases hlk : k < d.length
            · have e1 := hrw.cell (j := k) (by rw [fl_length]; omega)
              rw [at0_fl _ (by omega)] at e1
              have e2 := hnw.cell (j := k) (by have := HNL.out; omega)
              have hfz := hnw.frozen k
              have hbk := below_le T k
              go_wp2
              go_roundw
              case rel =>
                refine ⟨k + 1, nx.set k (below T k : Int), by omega, by go_num, hbl.setCell (by show w.heap.size ≤ S1; omega) _, hrw.other (by show S1 ≠ w.heap.size; omega) _, hnw.set k _, by simp [HNL.out], fun v hv => ?_⟩
                rw [at0_set (by have := HNL.out; omega)]
                split
                · rename_i e; rw [e]
                · exact HNV.out v (by omega)
              case measure => simp [intOf]; omega
            · have hk' : k = d.length := by omega
              subst hk'
              have HN0 : Hid (NextOk (grOf d) T [] nx) := ⟨HNL.out, fun v hv => by rw [HNV.out v hv]; simp [cnt]⟩
              clear HNL HNV
              have e1 := hrw.cell (j := d.length) (by rw [fl_length]; omega)
              rw [hbe] at e1
              have hmk3 := makeI (below T d.length) (by omega)
              have hbp : ((below T d.length : Nat) : Int) ≤ 131072 := by omega
              go_wp2
              have hS2 : S1 < wr.heap.size := hnw.lt
              have hj0 := hrw.alloc (.cells (madeCells #[.int .i64 0] (below T d.length)) 3)
              have hj1 := hnw.alloc (.cells (madeCells #[.int .i64 0] (below T d.length)) 3)
              have hj2 := IRow.made wr (below T d.length) (by unfold maxLen; omega)
              have hj3 := hbl.alloc hbl.size (.cells (madeCells #[.int .i64 0] (below T d.length)) 3)
              generalize hS : wr.heap.size = S2 at hS2 hj2 ⊢
              have HSS : Hid _ := hS
              clear hS hmk3 hbl hrw hnw e1
              go_loopw [13] (fun iv w4 => ∃ i : Nat, ∃ nx pr : List Int, i ≤ d.length ∧ iv = .int .i64 i ∧ Below w.heap.size w w4 ∧ IRow w4 w.heap.size (d.length + 1) (fl (d.length + 1) (below T)) ∧ IRow w4 S1 d.length nx ∧ IRow w4 S2 (below T d.length) pr ∧ pr.length = below T d.length ∧ NextOk (grOf d) T (gone (grOf d) i 0) nx ∧ PredOk T (gone (grOf d) i 0) d.length pr) (fun iv _ => d.length - (intOf iv).toNat)
              case atStart => exact ⟨0, nx, _, Nat.zero_le _, rfl, hj3, hj0, hj1, hj2, by simp, HN0.out, PredOk.start _ _ _⟩
              case round =>
                clear hj0 hj1 hj2 hj3 HSS HN0
                obtain ⟨i, nx2, pr, hi1, rfl, hbl, hrw, hnw, hpw, hpl, hN, hP⟩ := hrel
                have HPL : Hid _ := hpl
                have HN : Hid _ := hN
                have HP : Hid _ := hP
                clear hpl hN hP
                by_cases hlt : i < d.length
                · obtain ⟨hp, hbB⟩ := ha (by omega)
                  obtain ⟨hcv, a1, b1, off1, cap1, hv1, hm1, ha1, hc1⟩ := hc i hlt
                  have hcell := (hbl.cell (p := ⟨b, off + i, none⟩) (by exact Nat.lt_of_lt_of_le hbB hB)).trans hcv
                  rw [hv1] at hcell
                  have hrl := HRL.out i hlt
                  cases hp
                  clear ha hcv
                  go_wp2
                  go_loopw [15] (fun kv w4 => ∃ k : Nat, ∃ nx pr : List Int, k ≤ (row0 d i).length ∧ kv = .int .i64 k ∧ Below w.heap.size w w4 ∧ IRow w4 w.heap.size (d.length + 1) (fl (d.length + 1) (below T)) ∧ IRow w4 S1 d.length nx ∧ IRow w4 S2 (below T d.length) pr ∧ pr.length = below T d.length ∧ NextOk (grOf d) T (gone (grOf d) i k) nx ∧ PredOk T (gone (grOf d) i k) d.length pr) (fun kv _ => (row0 d i).length - (intOf kv).toNat)
                  case atStart => exact ⟨0, nx2, pr, Nat.zero_le _, rfl, hbl, hrw, hnw, hpw, HPL.out, HN.out, HP.out⟩
                  case round =>
                    clear hbl hrw hnw hpw HPL HN HP hcell
                    obtain ⟨k, nx3, pr3, hk1, rfl, hbl, hrw, hnw, hpw, hpl, hN, hP⟩ := hrel
                    have HPL : Hid _ := hpl
                    have HN : Hid _ := hN
                    have HP : Hid _ := hP
                    clear hpl hN hP
                    by_cases hlk : k < (row0 d i).length
                    · obtain ⟨hp1, hbB1⟩ := ha1 (by omega)
                      cases hp1
                      obtain ⟨j, hj1, hj2, hj3⟩ := HR.out i hlt k hlk
                      have hck := (hbl.cell (p := ⟨b1, off1 + k, none⟩) (by exact Nat.lt_of_lt_of_le hbB1 hB)).trans (hc1 k hlk)
                      rw [hj1] at hck
                      obtain ⟨F, hF⟩ := HGo.out i (k + 1) hlt (by omega)
                      rw [gone_step, hj3] at hF
                      obtain ⟨hq1, hq2⟩ := PredOk.step (i := i) (w := j) hF hj2 HPL.out HP.out
                      rw [HPL.out] at hq1
                      have e2 := hnw.cell (j := j) (by have : nx3.length = d.length := HN.out.1; omega)
                      rw [HN.out.2 j hj2] at e2
                      have hfz2 := hnw.frozen j
                      obtain ⟨q, hqq⟩ : ∃ q, q = below T j + cnt (gone (grOf d) i k) j := ⟨_, rfl⟩
                      rw [← hqq] at hq1 hq2 e2
                      have e3 := hpw.cell (j := q) (by have := HPL.out; omega)
                      have hfz3 := hpw.frozen q
                      have HN2 : Hid (NextOk (grOf d) T (gone (grOf d) i k ++ [(i, j)]) (nx3.set j ((q : Int) + 1))) := NextOk.step HN.out hj2 (by rw [hqq])
                      have HQ2 : Hid _ := hq2
                      have HJ3 : Hid _ := hj3
                      have j0 : (0 : Int) ≤ (j : Int) := by omega
                      have j1 : (j : Int) < (d.length : Int) := by omega
                      have q0 : (0 : Int) ≤ (q : Int) := by omega
                      have q1 : (q : Int) < ((below T d.length : Nat) : Int) := by omega
                      have hne12 : S1 ≠ S2 := by omega
                      clear hF hq2 hj3 hj1 hc hc1 ha1 hqq
                      go_wp2
                      go_roundw
                      case rel => exact ⟨k + 1, _, _, by omega, by go_num, (hbl.setCell (by show w.heap.size ≤ S2; omega) _).setCell (by show w.heap.size ≤ S1; omega) _, (hrw.other (by show S2 ≠ w.heap.size; omega) _).other (by show S1 ≠ w.heap.size; omega) _, (hnw.other (by show S2 ≠ S1; omega) _).set j _, (hpw.set q _).other (by show S1 ≠ S2; omega) _, by simp [HPL.out], by rw [gone_step, HJ3.out]; exact HN2.out, by rw [gone_step, HJ3.out]; exact HQ2.out⟩
                      case measure => simp [intOf]; omega
                    · have hk' : k = (row0 d i).length := by omega
                      subst hk'
                      go_wp2
                      go_roundw
                      case rel => exact ⟨i + 1, nx3, pr3, by omega, by go_num, hbl, hrw, hnw, hpw, HPL.out, by rw [gone_next]; exact HN.out, by rw [gone_next]; exact HP.out⟩
                      case measure => simp [intOf]; omega
                · have hi' : i = d.length := by omega
                  subst hi'
                  have hP2 : PredSpec (grOf d) (fl (d.length + 1) (below T)) pr := by
                    have h1 := HP.out
                    rw [show gone (grOf d) d.length 0 = T by rw [HT.out]; simp [gone, rowEdges]; rfl] at h1
                    have h2 := HPL.out
                    have e := HT.out
                    rw [e] at h1 h2 ⊢
                    exact predSpec_of h2 h1
                  have HP2 : Hid _ := hP2
                  clear hP2 HN HP ha hc
                  go_wp2
                  go_ret2
                  have r1 := hrw.read (S := fun b => w.heap.size ≤ b ∧ b < wr.heap.size) ⟨Nat.le_refl _, hrw.lt⟩
                  have r2 := hpw.read (S := fun b => w.heap.size ≤ b ∧ b < wr.heap.size) ⟨by omega, hpw.lt⟩
                  rw [fl_length] at r1
                  rw [HPL.out] at r2
                  exact ⟨_, _, _, _, rfl, hbl, r1, r2, HP2.out⟩

end Go.Proofs.Qxb6603026a
