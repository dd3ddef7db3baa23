/-
  graph.groups (function 31): its contract; and ZZGroups (function 13).
-/
import Derived.Test.Qxb6603026aGcA1
import Derived.Test.Qxb6603026aGcA2
import Derived.Test.Qxb6603026aGcA3
import Derived.Test.Qxb6603026aGcB1k
import Derived.Test.Qxb6603026aGcB1e
import Derived.Test.Qxb6603026aGcB2e
namespace Go.Proofs.Qxb6603026a
open Go.RowKit
set_option linter.unusedSimpArgs false
set_option linter.unusedVariables false

/-- the groups, read -/
theorem GrMem.rows {H : Nat} {w : World} {sv gv : Value} {gs : List (List Nat)} (h : GrMem H w sv gv gs) (hl : gs.length ≤ 65536) (hc : ∀ c ∈ gs, c.length ≤ 65536) : RowsIn (fun b => H ≤ b ∧ b < w.heap.size) w gv (gs.map ns) := by
  obtain ⟨us, h1, h2⟩ := h
  have hlen : (gs.map ns).length = gs.length := by simp
  have hrow : ∀ i, i < gs.length → ∃ u, us[i]? = some u ∧ IntsIn (fun b => H ≤ b ∧ b < w.heap.size) w u (row0 (gs.map ns) i) := by
    intro i hi
    obtain ⟨u, hu, gb, cap, rfl, hr, hb, _⟩ := h2 i gs[i] (List.getElem?_eq_getElem hi)
    refine ⟨_, hu, ?_⟩
    have e : row0 (gs.map ns) i = ns gs[i] := by simp [row0, hi]
    rw [e]
    have := hr.read (S := fun b => H ≤ b ∧ b < w.heap.size) ⟨by omega, hr.lt⟩
    rwa [ns_length] at this
  rcases h1.2 with ⟨rfl, h0⟩ | ⟨g, cap, cur, rfl, hb, hg, hnc, hcm, rest⟩
  · refine ⟨none, 0, 0, 0, fun _ => undef, by rw [hlen, h0], by rw [hlen, h0]; exact Nat.zero_le _, fun hh => by omega, fun i hi => by omega⟩
  · have hR : Row w 26 1 g gs.length cap us := Row.of_owns h1
    refine ⟨_, g, 0, cap, fun i => us.getD i undef, by rw [hlen], by rw [hlen]; unfold maxLen; omega, fun _ => ⟨rfl, by omega, hR.lt⟩, fun i hi => ?_⟩
    rw [hlen] at hi
    obtain ⟨u, hu, hin⟩ := hrow i hi
    have hcell := hR.cell (j := i) (by omega)
    rw [hu] at hcell
    simp only [Nat.zero_add, List.getD_eq_getElem?_getD, hu, Option.getD_some]
    exact ⟨hcell, hin⟩

/-- what groups hands back -/
def GroupsSaid (d : List (List Int)) (w : World) (e : Ending) (w' : World) : Prop :=
  ∃ (gv : Value) (s : TS), e = .returned gv ∧ TInv (grOf d) s ∧ TInv2 s ∧ s.wlk = [] ∧ (∀ v, v < d.length → v ∈ s.pre) ∧ DfsTo (grOf d) d.length s.pre s.fin ∧
    Below w.heap.size w w' ∧ RowsIn (fun b => w.heap.size ≤ b ∧ b < w'.heap.size) w' gv (s.grs.map ns)

theorem groups_end {d : List (List Int)} {w w' : World} {bx : Obj} {s : TS} {sv wv gv : Value} (hn : d.length ≤ 65536) (hw : s.wlk = []) (HG : GAll w.heap.size (grOf d) w bx s w' sv wv gv) (hd : DfsTo (grOf d) d.length s.pre s.fin) (hp : ∀ v, v < d.length → v ∈ s.pre) : GroupsSaid d w (.returned gv) w' := by
  refine ⟨gv, s, rfl, HG.inv, HG.inv2, hw, hp, hd, HG.blw, HG.grs.rows ?_ ?_⟩
  · have : s.grs.length ≤ d.length := HG.inv.grs_le HG.inv2
    omega
  · intro c hc
    have h1 := length_le_of_nodup (HG.inv.gnd c hc).1 (m := s.pre) (fun v hv => (HG.inv.cover v).2 (.inr ⟨c, hc, hv⟩))
    have h2 : s.pre.length ≤ d.length := HG.inv.pre_le
    omega

set_option maxRecDepth 100000 in
set_option maxHeartbeats 1000000 in
theorem groups_any (B : Nat) (w : World) (a b dv : Value) (d : List (List Int)) (hd : RowsAt B w dv d) (hB : B ≤ w.heap.size) (hn : d.length ≤ 65536) (hw : wordsOf d ≤ 131072) (hr : InRange d) :
    Calls Try.prog 31 #[.agg #[a, b, dv, .slice none 0 0, .int .i64 0, .slice none 0 0, .map none]] w fun e w' => GroupsSaid d w e w' := by
  have hmk := makeI d.length (by omega)
  have hmb := makeB d.length (by omega)
  have HD : Hid (RowsAt B w dv d) := hd
  obtain ⟨ad, bd, off, cap, vs, rfl, hmax, ha, hc⟩ := hd
  clear ha hc
  go_enter Try.func31, Try.ntmps31
  go_wp2
  simp only [Nat.add_assoc, Nat.reduceAdd]
  refine at_world (fun w1 => GAll w.heap.size (grOf d) w (.cells #[a, b, .slice ad d.length cap, .slice none 0 0, .int .i64 0, .slice none 0 0, .map none] 54) ⟨[], [], fun _ => 0, [], [], []⟩ w1 (.slice none 0 0) (.slice none 0 0) (.slice none 0 0)) (groups_start w (grOf d) _ hn) ?_
  intro w1 h1
  clear hmk hmb
  go_loopw [32, 8] (fun rv gv wr => ∃ (r : Nat) (s : TS) (sv wv : Value), r ≤ d.length ∧ rv = .int .i64 r ∧ s.wlk = [] ∧ GAll w.heap.size (grOf d) w (.cells #[a, b, .slice ad d.length cap, .slice none 0 0, .int .i64 0, .slice none 0 0, .map none] 54) s wr sv wv gv ∧ DfsTo (grOf d) r s.pre s.fin ∧ ∀ v, v < r → v ∈ s.pre) (fun rv _ _ => d.length - (intOf rv).toNat)
  case atStart => exact ⟨0, _, _, _, Nat.zero_le _, rfl, rfl, h1, ⟨rfl, rfl⟩, fun v hv => by omega⟩
  case round =>
    clear h1
    obtain ⟨r, s, sv, wv, hr1, rfl, HW, HG, HDf, HP⟩ := hrel
    have HW : Hid (s.wlk = []) := HW
    have HDf : Hid (DfsTo (grOf d) r s.pre s.fin) := HDf
    have HP : Hid (∀ v, v < r → v ∈ s.pre) := HP
    by_cases hlt : r < d.length
    · have HC := HG.cm
      have hon := HC.ordAt hlt
      obtain ⟨c2, f2⟩ := cell_of_box HC.c2
      by_cases hv : r ∈ s.pre
      · have ho : ((s.ord r : Int) != 0) = true := by
          have := ordOf_pos.2 hv
          simp [TS.ord]; omega
        go_wp2
        go_roundw
        case rel => exact ⟨r + 1, s, sv, wv, by omega, by go_num, HW.out, HG, HDf.out.skip hv, fun v hv' => by
          by_cases e : v = r
          · subst e; exact hv
          · exact HP.out v (by omega)⟩
        case measure => simp [intOf]; omega
      · have ho : ((s.ord r : Int) != 0) = false := by
          have := ordOf_zero.2 hv
          simp [TS.ord]; omega
        have HI := HG.inv
        have HT2 := HG.inv2
        have hpl := HI.pre_lt (j := r) hlt hv
        have hsn := HI.stk_nil HW.out
        have hcall := visit_any w.heap.size d.length r s wr sv wv HG.gm hlt hn hpl hv (by rw [hsn]; simp) (by rw [HW.out]; simp)
        have HCall : Hid _ := hcall
        clear hcall hsn HC
        go_wp2_with fail
        refine Calls.mono HCall.out ?_
        rintro e w2 ⟨rfl, sv', wv', hm2, hf2, hsv2⟩
        have HG2 : GAll w.heap.size (grOf d) w (.cells #[a, b, .slice ad d.length cap, .slice none 0 0, .int .i64 0, .slice none 0 0, .map none] 54) (s.visit r) w2 sv' wv' u8 :=
          HG.move (HI.visit hlt hv (fun y hy => by rw [HI.stk_nil HW.out] at hy; cases hy) (fun x hx => by rw [HI.stk_nil HW.out] at hx; cases hx)) (TInv2.visit HI HT2 hv) hm2 rfl hf2 hsv2
        have HIn : Hid (DfsIn (grOf d) r (s.visit r)) := DfsIn.start HDf.out hv HW.out
        clear hm2 hf2 hsv2 HG c2 f2 hon ho HI HT2
        have HPr : Hid (∀ v, v ≤ r → v ∈ (s.visit r).pre) := fun v hv' => by
          by_cases e : v = r
          · subst e; simp [TS.visit]
          · simp [TS.visit, HP.out v (by omega)]
        go_wp2_with fail
        go_loopg [8] (mu (grOf d) (s.visit r)) (fun k gv w3 => ∃ (s3 : TS) (sv wv : Value), k = mu (grOf d) s3 ∧ GAll w.heap.size (grOf d) w (.cells #[a, b, .slice ad d.length cap, .slice none 0 0, .int .i64 0, .slice none 0 0, .map none] 54) s3 w3 sv wv gv ∧ DfsIn (grOf d) r s3 ∧ ∀ v, v ≤ r → v ∈ s3.pre)
        case atStart => exact ⟨_, _, _, rfl, HG2, HIn.out, HPr.out⟩
        case round =>
          clear HG2 HIn HPr HCall hpl hv HW HDf HP
          obtain ⟨s3, sv3, wv3, HK, HG, HIn, HP⟩ := hrel
          have HK : Hid (gk = mu (grOf d) s3) := HK
          have HIn : Hid (DfsIn (grOf d) r s3) := HIn
          have HP : Hid (∀ v, v ≤ r → v ∈ s3.pre) := HP
          obtain ⟨c9, f9⟩ := cell_of_box HG.cm.c9
          by_cases hwk : s3.wlk = []
          · obtain ⟨wa, wc, hwv⟩ := owns_form HG.gm.wlk
            rw [hwk] at hwv
            have HWK : Hid (s3.wlk = []) := hwk
            subst hwv
            clear hwk
            go_wp2
            go_roundw
            case rel => exact ⟨r + 1, s3, sv3, _, by omega, by go_num, HWK.out, HG, HIn.out.stop HWK.out, fun v hv => HP.out v (by omega)⟩
            case measure => simp [intOf]; omega
          · obtain ⟨ws, ⟨i, k⟩, e⟩ : ∃ ws q, s3.wlk = ws ++ [q] := ⟨s3.wlk.dropLast, s3.wlk.getLast hwk, (List.dropLast_concat_getLast hwk).symm⟩
            have hdH : RowsAt w.heap.size w (.slice ad d.length cap) d := RowsAt.mono HD.out hB
            have HI := HG.inv
            by_cases hk : k < (row0 d i).length
            · by_cases hpre : (at0 (row0 d i) k).toNat ∈ s3.pre
              · by_cases hst : (at0 (row0 d i) k).toNat ∈ s3.stk
                · refine caseA2 _ r d w _ _ s3 _ _ _ ?_ hn hr hw a b _ rfl hdH HG HIn.out HP.out ws i k e hk hst
                  intros
                  rename_i gv4 w4 hrel
                  obtain ⟨s', sv', wv', hmu, hG', hIn', hP'⟩ := hrel
                  clear HG HI HIn HP
                  go_step
                  go_roundg (mu (grOf d) s')
                  case measure => rw [HK.out]; exact hmu
                  case rel => exact ⟨s', sv', wv', rfl, hG', hIn', hP'⟩
                · refine caseA3 _ r d w _ _ s3 _ _ _ ?_ hn hr hw a b _ rfl hdH HG HIn.out HP.out ws i k e hk hpre hst
                  intros
                  rename_i gv4 w4 hrel
                  obtain ⟨s', sv', wv', hmu, hG', hIn', hP'⟩ := hrel
                  clear HG HI HIn HP
                  go_step
                  go_roundg (mu (grOf d) s')
                  case measure => rw [HK.out]; exact hmu
                  case rel => exact ⟨s', sv', wv', rfl, hG', hIn', hP'⟩
              · refine caseA1 _ r d w _ _ s3 _ _ _ ?_ hn hr hw a b _ rfl hdH HG HIn.out HP.out ws i k e hk hpre
                intros
                rename_i gv4 w4 hrel
                obtain ⟨s', sv', wv', hmu, hG', hIn', hP'⟩ := hrel
                clear HG HI HIn HP
                go_step
                go_roundg (mu (grOf d) s')
                case measure => rw [HK.out]; exact hmu
                case rel => exact ⟨s', sv', wv', rfl, hG', hIn', hP'⟩
            · have his : i ∈ s3.stk := (HI.wst (i, k) (by rw [e]; simp)).1
              by_cases heq : s3.low i = s3.ord i
              · obtain ⟨st1, st2, es⟩ := List.append_of_mem his
                rcases List.eq_nil_or_concat ws with ews | ⟨ws1, ⟨p, kp⟩, ews⟩
                · refine caseB2e _ r d w _ _ s3 _ _ _ ?_ hn hr hw a b _ rfl hdH HG HIn.out HP.out ws i k e hk ews heq st1 st2 es
                  intros
                  rename_i gv4 w4 hrel
                  obtain ⟨s', sv', wv', hmu, hG', hIn', hP'⟩ := hrel
                  clear HG HI HIn HP
                  go_step
                  go_roundg (mu (grOf d) s')
                  case measure => rw [HK.out]; exact hmu
                  case rel => exact ⟨s', sv', wv', rfl, hG', hIn', hP'⟩
                · refine caseB1e _ r d w _ _ s3 _ _ _ ?_ hn hr hw a b _ rfl hdH HG HIn.out HP.out ws i k e hk ws1 p kp (by rw [ews]; simp) heq st1 st2 es
                  intros
                  rename_i gv4 w4 hrel
                  obtain ⟨s', sv', wv', hmu, hG', hIn', hP'⟩ := hrel
                  clear HG HI HIn HP
                  go_step
                  go_roundg (mu (grOf d) s')
                  case measure => rw [HK.out]; exact hmu
                  case rel => exact ⟨s', sv', wv', rfl, hG', hIn', hP'⟩
              · have hne := (HI.pop_keep e hk heq).2
                rcases List.eq_nil_or_concat ws with ews | ⟨ws1, ⟨p, kp⟩, ews⟩
                · exact absurd ews hne
                · refine caseB1k _ r d w _ _ s3 _ _ _ ?_ hn hr hw a b _ rfl hdH HG HIn.out HP.out ws i k e hk ws1 p kp (by rw [ews]; simp) heq
                  intros
                  rename_i gv4 w4 hrel
                  obtain ⟨s', sv', wv', hmu, hG', hIn', hP'⟩ := hrel
                  clear HG HI HIn HP
                  go_step
                  go_roundg (mu (grOf d) s')
                  case measure => rw [HK.out]; exact hmu
                  case rel => exact ⟨s', sv', wv', rfl, hG', hIn', hP'⟩
    · have hrn : r = d.length := by omega
      subst hrn
      go_wp2
      go_ret
      exact groups_end hn HW.out HG HDf.out HP.out

end Go.Proofs.Qxb6603026a
