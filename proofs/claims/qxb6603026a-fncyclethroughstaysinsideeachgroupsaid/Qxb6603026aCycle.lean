/-
  graph.cycleThrough (function 32), ZZCycleThrough (function 22): their contract.
-/
import Derived.Test.Qxb6603026aCycTodo
import Derived.Test.Qxb6603026aC1
import Derived.Test.Qxb6603026aC4
import Derived.Test.Qxb6603026aReverse
import Derived.Test.Qxb6603026aRead
import Derived.Deep.QuietTactic
import Derived.BigQuiet
import Derived.Outline
namespace Go.Proofs.Qxb6603026a
open Go.RowKit Go.Maps
set_option linter.unusedSimpArgs false
set_option linter.unusedVariables false

/-- the path turned round between its ends -/
theorem rev_done {f : Nat} {R : List Nat} {a : Nat} {l : List Int} (h : Rv (ns (f :: R.reverse ++ [f])) 1 R.length a l) (h1 : R.length ≤ a + a + 1) (h2 : a + a ≤ R.length) : l = ns (f :: R ++ [f]) := by
  obtain ⟨hl, hp⟩ := h
  rw [ns_length] at hl
  have hl' : l.length = R.length + 2 := by rw [hl]; simp
  have at_l : ∀ {L : List Nat} {p : Nat}, p < L.length → at0 (ns L) p = ((nd0 L p : Nat) : Int) := fun hq => at0_nd0 hq
  apply at0_ext (by rw [ns_length, hl']; simp)
  intro p hpl
  rw [hl'] at hpl
  rw [hp p]
  have key : ∀ q, 1 ≤ q → q < 1 + R.length → at0 (ns (f :: R.reverse ++ [f])) (1 + R.length - q) = at0 (ns (f :: R ++ [f])) q := by
    intro q hq1 hq2
    rw [at_l (by simp; omega), at_l (by simp; omega)]
    congr 1
    obtain ⟨r, rfl⟩ : ∃ r, q = r + 1 := ⟨q - 1, by omega⟩
    have e : 1 + R.length - (r + 1) = (R.length - 1 - r) + 1 := by omega
    rw [e]
    unfold nd0
    simp only [List.cons_append, List.getD_eq_getElem?_getD, List.getElem?_cons_succ]
    rw [List.getElem?_append_left (by simp; omega), List.getElem?_append_left (by omega), List.getElem?_reverse (by omega)]
    congr 3; omega
  by_cases hmid : 1 ≤ p ∧ p < 1 + R.length
  · by_cases hc : p < 1 + a ∨ 1 + R.length ≤ p + a
    · rw [if_pos ⟨hmid.1, hmid.2, hc⟩, show 1 + 1 + R.length - 1 - p = 1 + R.length - p by omega]
      exact key p hmid.1 hmid.2
    · rw [if_neg (fun hh => hc hh.2.2), ← key p hmid.1 hmid.2]
      congr 1; omega
  · rw [if_neg (fun hh => hmid ⟨hh.1, hh.2.1⟩), at_l (by simp; omega), at_l (by simp; omega)]
    congr 1
    rcases Nat.eq_zero_or_pos p with rfl | hp0
    · simp [nd0]
    · obtain rfl : p = R.length + 1 := by omega
      unfold nd0
      simp only [List.cons_append, List.getD_eq_getElem?_getD, List.getElem?_cons_succ]
      rw [List.getElem?_append_right (by simp), List.getElem?_append_right (by omega)]
      simp

/-- the graph's deps in its box -/
theorem box_cell (w : World) (a b v : Value) : (w.alloc (.cells #[a, b, v, .slice none 0 0, .int .i64 0, .slice none 0 0, .map none] 54)).cell? ⟨w.heap.size, 2, none⟩ = some v := by
  have h : Row (w.alloc (.cells #[a, b, v, .slice none 0 0, .int .i64 0, .slice none 0 0, .map none] 54)) 54 7 w.heap.size 1 1 [a, b, v, .slice none 0 0, .int .i64 0, .slice none 0 0, .map none] :=
    World.ownsRow_lit (base := 0) (e := 54) (size := 7) w #[a, b, v, .slice none 0 0, .int .i64 0, .slice none 0 0, .map none] 1 (Nat.zero_le _) (by unfold maxLen; omega) rfl
  rw [h.cell (by omega)]; rfl

/-- the search's memory -/
structure CS (B : Nat) (w0 : World) (c : List Nat) (f bc gb h : Nat) (q : List Nat) (cm : Nat → Nat) (tv : Value) (w : World) : Prop where
  blw : Below B w0 w
  set : SetMap w B c
  cam : CameMap w bc f q cm
  tdo : Todo w tv gb (q.drop h) q.length
  lgb : B < gb
  ne : gb ≠ bc

def CycSaid (d : List (List Int)) (c : List Nat) (f : Nat) (w : World) (e : Ending) (w' : World) : Prop :=
  ∃ (cv : Value) (R : List Nat), e = .returned cv ∧ Cyc (grOf d) c f R ∧ Below w.heap.size w w' ∧ IntsIn (fun b => w.heap.size ≤ b ∧ b < w'.heap.size) w' cv (ns (f :: R ++ [f]))

def OutRel (B : Nat) (w0 : World) (g : Gr) (c : List Nat) (f bc : Nat) (k : Nat) (tv : Value) (w : World) : Prop :=
  ∃ (h gb : Nat) (q : List Nat) (cm : Nat → Nat), k = c.length - h ∧ h ≤ q.length ∧ CS B w0 c f bc gb h q cm tv w ∧ Tree g c f q cm ∧ Cl g c q h 0 ∧ NoBack g f q h 0
def InRel (B : Nat) (w0 : World) (g : Gr) (c : List Nat) (f bc h x : Nat) (tv kv : Value) (w : World) : Prop :=
  ∃ (k gb : Nat) (q : List Nat) (cm : Nat → Nat), h < q.length ∧ nd0 q h = x ∧ k ≤ g.deg x ∧ kv = .int .i64 (k : Int) ∧ CS B w0 c f bc gb h q cm tv w ∧ Tree g c f q cm ∧ Cl g c q h k ∧ NoBack g f q h k

set_option maxRecDepth 100000 in
set_option maxHeartbeats 2000000 in
theorem cyc_any (w : World) (a b : Value) (d : List (List Int)) (gs : List (List Nat)) (i : Nat) (c : List Nat) (f : Nat) (ad ag : Option Addr) (cd cg : Nat) (hn : d.length ≤ 65536) (hw : wordsOf d ≤ 131072) (hr : InRange d)
    (hs : Scc (grOf d) gs) (hcg : gs[i]? = some c) (hf : f ∈ c) (hback : HasBack (grOf d) c f) (hd : RowsAt w.heap.size w (.slice ad d.length cd) d) (hg : IntsAt w.heap.size w (.slice ag c.length cg) (ns c)) :
    Calls Try.prog 32 #[.agg #[a, b, .slice ad d.length cd, .slice none 0 0, .int .i64 0, .slice none 0 0, .map none], .int .i64 (f : Int), .slice ag c.length cg] w fun e w' => CycSaid d c f w e w' := by
  have hcl : c.length ≤ d.length := by
    have := length_le_of_nodup (hs.nd i c hcg) (m := List.range d.length) (fun v hv => List.mem_range.2 (hs.lt i c hcg v hv))
    simpa using this
  have hcn : ∀ x ∈ c, x < 65536 := fun x hx => by have : x < d.length := hs.lt i c hcg x hx; omega
  have hfn := hcn f hf
  have HS : Hid _ := hs
  have HCG : Hid _ := hcg
  have HF : Hid _ := hf
  have HBK : Hid _ := hback
  have HD : Hid _ := hd
  have HGV : Hid _ := hg
  have HCN : Hid _ := hcn
  have HR : Hid _ := hr
  have HW : Hid _ := hw
  have hmm := fun w => makeM w c.length
  have hm0 := @run_makeMap Try.prog
  clear hs hcg hf hback hd hg hcn hr hw
  go_enter Try.func32, Try.ntmps32
  go_wp2_with fail
  have esz : (w.alloc (.cells #[a, b, .slice ad d.length cd, .slice none 0 0, .int .i64 0, .slice none 0 0, .map none] 54)).heap.size = w.heap.size + 1 := by simp
  have hgc : (w.alloc (.cells #[a, b, .slice ad d.length cd, .slice none 0 0, .int .i64 0, .slice none 0 0, .map none] 54)).cell? ⟨w.heap.size, 2, none⟩ = some (.slice ad d.length cd) := box_cell _ _ _ _
  obtain ⟨w0, hw0⟩ : ∃ w0, w0 = w.alloc (.cells #[a, b, .slice ad d.length cd, .slice none 0 0, .int .i64 0, .slice none 0 0, .map none] 54) := ⟨_, rfl⟩
  have hb0 : Below w.heap.size w w0 := by rw [hw0]; exact (Below.refl _ _).alloc (Nat.le_refl _) _
  rw [← hw0] at esz hgc ⊢
  have HB0 : Hid _ := hb0
  have HG0 : Hid (IntsAt (w.heap.size + 1) w0 (.slice ag c.length cg) (ns c)) := IntsAt.mono (IntsAt.below HGV.out hb0) (Nat.le_succ _)
  have HD0 : Hid (RowsAt (w.heap.size + 1) w0 (.slice ad d.length cd) d) := RowsAt.mono (RowsAt.below HD.out hb0) (Nat.le_succ _)
  have HGC : Hid _ := hgc
  obtain ⟨B, hB⟩ : ∃ B, B = w.heap.size + 1 := ⟨_, rfl⟩
  have HBE : Hid _ := hB
  rw [← hB] at esz HG0 HD0 ⊢
  have hsm : SetMap (w0.alloc (.map #[] 0)) B [] := by have h0 := SetMap.made w0; rwa [esz] at h0
  have HSM : Hid _ := hsm
  clear hb0 HGV HD hgc hsm hB hw0
  refine setLoop B w0 _ c ag cg (by omega) HCN.out HG0.out ((Below.refl _ _).alloc (by omega) _) (by simp; omega) HSM.out ?_
  intros
  rename_i w1 hb1 hs1
  have hl1 := hs1.lt
  obtain ⟨w2, hrun, hc2, hg2⟩ := CameMap.first w1 (f := f) (by omega) (fun _ => 0)
  have hl2 := hc2.lt
  have hcs0 : CS B w0 c f w1.heap.size w2.heap.size 0 [f] (fun _ => 0) (.slice (some ⟨w2.heap.size, 0, none⟩) 1 1) (w2.alloc (.cells #[.int .i64 (f : Int)] 3)) := by
    refine ⟨?_, ?_, hc2.alloc _, Todo.one rfl f, by omega, by omega⟩
    · exact ((hb1.alloc (by omega) _).grown hg2 (by simp; omega) (fun k hk => by injection hk with hk; omega)).alloc (by omega) _
    · exact ((hs1.alloc _).kept hg2 (fun e => by injection e with e; omega)).alloc _
  have HCS0 : Hid _ := hcs0
  have hl3 : B < w1.heap.size := hl1
  clear hb1 hs1 hc2 hg2 hcs0 HSM hmm hl1
  go_wp2_with fail
  generalize w1.heap.size = bc at HCS0 hl2 hl3 ⊢
  clear hrun
  go_loopg [11] c.length (fun k tv wr => OutRel B w0 (grOf d) c f bc k tv wr)
  case atStart => exact ⟨0, w2.heap.size, [f], fun _ => 0, by simp, by simp, HCS0.out, Tree.start HF.out _, Cl.start _ _ _, NoBack.start _ _ _⟩
  case round =>
    clear HCS0 hl2
    obtain ⟨h, gb, q, cm, hk, hh, hcs, ht, hcl1, hnb⟩ := hrel
    have hlt : h < q.length := by
      refine Nat.lt_of_le_of_ne hh fun e => ?_
      subst e
      exact not_dry HS.out (grOf_ok HR.out) HCG.out ht HBK.out hcl1 hnb
    have hqc : q.length ≤ c.length := length_le_of_nodup ht.nd ht.sub
    obtain ⟨x, hx⟩ : ∃ x, nd0 q h = x := ⟨_, rfl⟩
    have hxc : x ∈ c := by rw [← hx]; exact ht.sub _ (nd0_mem hlt)
    have hxn : x < d.length := HS.out.lt i c HCG.out x hxc
    have hdrop : q.drop h = x :: q.drop (h + 1) := by
      rw [List.drop_eq_getElem_cons hlt, ← hx]; simp [nd0, hlt]
    have htd := hcs.tdo
    rw [hdrop] at htd
    obtain ⟨off, c0, htv, hc0, hmx, hcell, _⟩ := htd.cons
    obtain ⟨n1, hn1⟩ : ∃ n1, n1 = (q.drop (h + 1)).length := ⟨_, rfl⟩
    rw [← hn1] at htv hc0
    subst htv
    have hgcell := (hcs.blw.cell (p := ⟨w.heap.size, 2, none⟩) (by show w.heap.size < B; have := HBE.out; omega)).trans HGC.out
    obtain ⟨ad', bd, od, cdd, vs, hva, hmax, ha, hc⟩ := HD0.out
    obtain ⟨hp, hbd⟩ := ha (by omega)
    obtain ⟨hcv, a1, b1, off1, cap1, hv1, hm1, ha1, hc1⟩ := hc x hxn
    have hrow := (hcs.blw.cell (p := ⟨bd, od + x, none⟩) (by exact hbd)).trans hcv
    rw [hv1] at hrow
    cases hva
    subst hp
    have hrl := row_le HW.out hxn
    have HK : Hid _ := hk
    have HCS : Hid _ := hcs
    have HT : Hid _ := ht
    have HCL : Hid _ := hcl1
    have HNB : Hid _ := hnb
    have HX : Hid _ := hx
    have x0 : (0 : Int) ≤ (x : Int) := by omega
    have x1 : (x : Int) < (d.length : Int) := by omega
    have hpos : (0 : Int) < ((n1 + 1 : Nat) : Int) := by omega
    clear hk hcs ht hcl1 hnb hx htd hdrop ha hc hmax hm1 hv1 hcv hn1
    go_wp2_with fail
    go_loopw [11, 47] (fun tv kv wr => InRel B w0 (grOf d) c f bc h x tv kv wr) (fun _ kv _ => (row0 d x).length - (intOf kv).toNat)
    case atStart => exact ⟨0, gb, q, cm, hlt, HX.out, Nat.zero_le _, rfl, HCS.out, HT.out, HCL.out, HNB.out⟩
    case round =>
      clear HCS HT HCL HNB HX hgcell hrow hcell hqc hlt hh hc0 hmx hpos
      obtain ⟨k, gb2, q2, cm2, hlt, hx, hk1, rfl, hcs, ht, hcl1, hnb⟩ := hrel
      have hk1' : k ≤ (row0 d x).length := hk1
      have hqc : q2.length ≤ c.length := length_le_of_nodup ht.nd ht.sub
      have HCS : Hid _ := hcs
      have HT : Hid _ := ht
      have HCL : Hid _ := hcl1
      have HNB : Hid _ := hnb
      have HX : Hid _ := hx
      have hBs : B < wr.heap.size := hcs.set.lt
      have hbcs : bc < wr.heap.size := hcs.cam.lt
      have hgne := hcs.ne
      have hglt := hcs.lgb
      by_cases hlk : k < (row0 d x).length
      · obtain ⟨hp1, hbB1⟩ := ha1 (by omega)
        cases hp1
        have hck := (hcs.blw.cell (p := ⟨b1, off1 + k, none⟩) (by exact hbB1)).trans (hc1 k hlk)
        have hj := HR.out x hxn k hlk
        obtain ⟨j, HJ⟩ : ∃ j : Nat, at0 (row0 d x) k = (j : Int) := ⟨(at0 (row0 d x) k).toNat, by omega⟩
        rw [HJ] at hck hj
        have hjn : j < d.length := by omega
        have hnx : (grOf d).nx (nd0 q2 h) k = j := by rw [hx]; show (at0 (row0 d x) k).toNat = j; rw [HJ]; simp
        have hedge : (grOf d).Edge x j := ⟨k, hlk, by rw [← hx]; exact hnx⟩
        have HN : Hid _ := hnx
        have HE : Hid _ := hedge
        have hxq : x ∈ q2 := by rw [← hx]; exact nd0_mem hlt
        have HXQ : Hid _ := hxq
        obtain ⟨cc, hok⟩ := hcs.cam.ok (x := j) (by omega)
        have hin := hcs.set.look (x := j) (by omega)
        clear hcs ht hcl1 hnb hx HJ hj hnx hedge hxq hc1 ha1
        by_cases hjf : j = f
        · have t1 : ((j : Int) == (f : Int)) = true := by simp [hjf]
          have HJF : Hid _ := hjf
          clear hjf hin hok
          go_wp2_with fail
          have hrow0 : Row (wr.alloc (.cells #[.int .i64 (f : Int)] 3)) 3 1 wr.heap.size 1 1 (ints (ns [f])) := World.ownsRow_lit (base := 0) (e := 3) (size := 1) wr #[.int .i64 (f : Int)] 1 (Nat.zero_le _) (by unfold maxLen; omega) rfl
          have HROW0 : Hid _ := hrow0
          clear hrow0 hck
          refine wayLoop B w0 _ (grOf d) c f q2 cm2 bc x wr.heap.size 1 (by omega) (fun y hy => HCN.out y (HT.out.sub y hy)) HT.out HXQ.out (HCS.out.blw.alloc (by omega) _) (by simp; omega) (HCS.out.cam.alloc _) (by omega) (by omega) HROW0.out ?_
          intros
          rename_i gp1 cap1' R w5 hway hb5 hB5 hgp5 hrow5
          have hRl : R.length ≤ 65536 := by
            have := length_le_of_nodup hway.nd (fun y hy => (hway.rq y hy).1)
            omega
          have hcyc : Cyc (grOf d) c f R := hway.done HT.out (by rw [← HJF.out]; exact HE.out)
          have HCYC : Hid _ := hcyc
          have HROW5 : Hid _ := hrow5
          have HB5 : Hid _ := hb5
          obtain ⟨i3, p1, p2, p3, p4⟩ := info_parts Try.info3
          clear hway hb5 hrow5 hcyc HROW0 HT HCL HNB HX HN HE HXQ HCS
          go_wp2_with (at_builtin; refine wpList_append_lies _ rfl (.tmp 67) (.tmp 69) 26 rfl B 3 i3 (.int .i64 0) 1 8 Try.underlying26 p1 p2 p3 p4 rfl (by omega) (.slice (some ⟨gp1, 0, none⟩) (R.length + 1) cap1') (R.length + 1) (ints (ns (f :: R.reverse))) rfl ((Row.owns HROW5.out hgp5).alloc _) ⟨w5.heap.size, 0, none⟩ 1 1 [.int .i64 (f : Int)] rfl rfl (news_one (by simp) _ _) (oneCell_int _) (by omega) (by unfold maxLen; omega) (by omega) (by simp; omega) (w5.heap.size + 1) (by simp) ?_)
          intro g6 cap6 w6 ho6 hg6 hat6 hlt6
          have hbb : B ≤ g6 := (World.ownsRow.lt ho6 g6 rfl).1
          have hb6 : Below B w0 w6 := (HB5.out.alloc hB5 _).grown hg6 (by simp; omega) (fun y hy => by have h6 : some gp1 = some y := hy; injection h6 with h6; omega)
          have hi6 : IRow w6 g6 cap6 (ns (f :: R.reverse ++ [f])) := by
            have e : ints (ns (f :: R.reverse ++ [f])) = ints (ns (f :: R.reverse)) ++ [.int .i64 (f : Int)] := by simp [ns, ints]
            have el : (ns (f :: R.reverse ++ [f])).length = R.length + 1 + 1 := by rw [ns_length]; simp
            unfold IRow
            rw [e, el]; exact Row.of_owns ho6
          have hcap6 : R.length + 1 + 1 ≤ cap6 ∧ cap6 ≤ maxLen := by
            have h0 := hi6.cap_le
            rw [ns_length] at h0
            simp at h0
            exact h0
          have HI6 : Hid _ := hi6
          have HB6 : Hid _ := hb6
          have hcap1 : cap6 ≠ 1 := by omega
          have hcapi : (R.length : Int) + 1 ≤ (cap6 : Int) := by omega
          unfold maxLen at hcap6
          clear ho6 hg6 hat6 hlt6 hi6 hb6
          go_wp2_with fail
          refine (reverse_any w6 g6 cap6 (ns (f :: R.reverse ++ [f])) 1 R.length _ HI6.out (by rw [ns_length]; simp; omega) (by omega) (by omega)).mono ?_
          rintro e w7 ⟨rfl, l7, a7, hi7, hrv, h71, h72, hb7⟩
          have hl7 := rev_done hrv h71 h72
          subst hl7
          have hk7 : Below w.heap.size w w7 := (HB0.out.trans ((HB6.out.trans (hb7.mono hbb)).mono (by have := HBE.out; omega)))
          have hrd := hi7.read (S := fun b => w.heap.size ≤ b ∧ b < w7.heap.size) ⟨by have := HBE.out; omega, hi7.lt⟩
          have el : (ns (f :: R ++ [f])).length = R.length + 1 + 1 := by rw [ns_length]; simp
          rw [el] at hrd
          have HFIN : Hid (CycSaid d c f w (.returned (.slice (some ⟨g6, 0, none⟩) (R.length + 1 + 1) cap6)) w7) := ⟨_, R, rfl, HCYC.out, hk7, hrd⟩
          clear hi7 hrv hb7 hk7 hrd el
          go_wp2
          go_ret
          exact HFIN.out
        · have t1 : ((j : Int) == (f : Int)) = false := by
            rw [beq_eq_false_iff_ne]; omega
          have HJF : Hid _ := hjf
          clear hjf
          by_cases hjq : j ∈ q2
          · have t2 : decide (j ∈ q2) = true := by simpa using hjq
            rw [t2] at hok
            have HJQ : Hid _ := hjq
            clear hjq t2 hin
            go_wp2
            go_roundw
            case rel => exact ⟨k + 1, gb2, q2, cm2, hlt, HX.out, hlk, by go_num, HCS.out, HT.out, Cl.step HCL.out (fun _ => by rw [HN.out]; exact HJQ.out), NoBack.step HNB.out (by rw [HN.out]; exact HJF.out)⟩
            case measure => simp [intOf]; omega
          · have t2 : decide (j ∈ q2) = false := by simpa using hjq
            rw [t2] at hok
            have HJQ : Hid _ := hjq
            clear hjq t2
            by_cases hjc : j ∈ c
            · have t3 : decide (j ∈ c) = true := by simpa using hjc
              rw [t3] at hin
              obtain ⟨w3, hrun3, hc3, hg3⟩ := HCS.out.cam.add (x := j) (i := x) (by omega) (by omega) (by omega) HJQ.out
              have HJC : Hid _ := hjc
              have hc3l := hc3.lt
              have hb3 : Below B w0 w3 := HCS.out.blw.grown hg3 (by omega) (fun y hy => by injection hy with hy; omega)
              have hs3 : SetMap w3 B c := HCS.out.set.kept hg3 (fun e => by injection e with e; omega)
              have ht3 : Todo w3 _ gb2 (q2.drop h) q2.length := HCS.out.tdo.kept hg3 (fun e => by injection e with e; omega)
              have hs3l := hs3.lt
              have HC3 : Hid _ := hc3
              have HB3 : Hid _ := hb3
              have HS3 : Hid _ := hs3
              have HT3 : Hid _ := ht3
              clear hjc t3 hc3 hb3 hs3 ht3 hg3
              go_wp2_with (at_builtin; refine wpList_append_todo _ rfl (.tmp 94) (.tmp 96) rfl _ gb2 (q2.drop h) q2.length (Todo.alloc HT3.out _) rfl ⟨w3.heap.size, 0, none⟩ j rfl (news_one (by simp) _ _) (by omega) ?_)
              intro tv5 g5 w5 ht5 hg5 hat5
              have hsz5 := hg5.size
              simp at hsz5
              have hb5 : Below B w0 w5 := (HB3.out.alloc (by omega) _).grown hg5 (by simp; omega) (fun y hy => by injection hy with hy; omega)
              have hs5 : SetMap w5 B c := (SetMap.alloc HS3.out _).kept hg5 (fun e => by injection e with e; omega)
              have hc5 : CameMap w5 bc f (q2 ++ [j]) (upd cm2 j x) := (CameMap.alloc HC3.out _).kept hg5 (fun e => by injection e with e; omega)
              have hat5' : g5 = gb2 ∨ w3.heap.size + 1 ≤ g5 := by simpa using hat5
              have hcs5 : CS B w0 c f bc g5 h (q2 ++ [j]) (upd cm2 j x) tv5 w5 := by
                refine ⟨hb5, hs5, hc5, ?_, by omega, by omega⟩
                rw [List.drop_append_of_le_length (by omega)]
                have el : (q2 ++ [j]).length = q2.length + 1 := by simp
                rw [el]; exact ht5
              have HCS5 : Hid _ := hcs5
              clear hcs5 hb5 hs5 hc5 ht5 hg5 hat5 hat5'
              go_wp2
              go_roundw
              case rel =>
                refine ⟨k + 1, g5, q2 ++ [j], upd cm2 j x, by simp; omega, by rw [nd0_append hlt]; exact HX.out, hlk, by go_num, HCS5.out, HT.out.push HXQ.out HJC.out HJQ.out HE.out, Cl.step (Cl.append HCL.out hlt) (fun _ => ?_), NoBack.step (NoBack.append HNB.out hlt) ?_⟩
                · rw [nd0_append hlt, HN.out]; simp
                · rw [nd0_append hlt, HN.out]; exact HJF.out
              case measure => simp [intOf]; omega
            · have t3 : decide (j ∈ c) = false := by simpa using hjc
              rw [t3] at hin
              have HJC : Hid _ := hjc
              clear hjc t3
              go_wp2
              go_roundw
              case rel => exact ⟨k + 1, gb2, q2, cm2, hlt, HX.out, hlk, by go_num, HCS.out, HT.out, Cl.step HCL.out (fun hm => absurd (by rw [HN.out] at hm; exact hm) HJC.out), NoBack.step HNB.out (by rw [HN.out]; exact HJF.out)⟩
              case measure => simp [intOf]; omega
      · have hk' : k = (row0 d x).length := by omega
        subst hk'
        have hdrop : q2.drop h = x :: q2.drop (h + 1) := by
          rw [List.drop_eq_getElem_cons hlt, ← hx]; simp [nd0, hlt]
        have htd := hcs.tdo
        rw [hdrop] at htd
        obtain ⟨off2, c2, htv, hc2, hmx2, _, hrest⟩ := htd.cons
        obtain ⟨n2, hn2⟩ : ∃ n2, n2 = (q2.drop (h + 1)).length := ⟨_, rfl⟩
        rw [← hn2] at htv hc2 hrest
        subst htv
        have HCLN : Hid (Cl (grOf d) c q2 (h + 1) 0) := by
          refine Cl.next ?_
          rw [hx]; exact hcl1
        have HNBN : Hid (NoBack (grOf d) f q2 (h + 1) 0) := by
          refine NoBack.next ?_
          rw [hx]; exact hnb
        have hone : (1 : Int) ≤ ((n2 + 1 : Nat) : Int) := by omega
        unfold maxLen at hmx2
        clear hcs ht hcl1 hnb hx hdrop htd hn2 hc1 ha1
        rcases hrest with ⟨hcap, htd⟩ | ⟨hcap, htd⟩
        · have HTD : Hid _ := htd
          clear htd
          go_wp2
          go_roundg (c.length - (h + 1))
          case measure => rw [HK.out]; omega
          case rel => exact ⟨h + 1, gb2, q2, cm2, rfl, hlt, ⟨HCS.out.blw, HCS.out.set, HCS.out.cam, HTD.out, hglt, hgne⟩, HT.out, HCLN.out, HNBN.out⟩
        · have HTD : Hid _ := htd
          clear htd
          go_wp2
          go_roundg (c.length - (h + 1))
          case measure => rw [HK.out]; omega
          case rel => exact ⟨h + 1, gb2, q2, cm2, rfl, hlt, ⟨HCS.out.blw, HCS.out.set, HCS.out.cam, HTD.out, hglt, hgne⟩, HT.out, HCLN.out, HNBN.out⟩

theorem zzcyc_any (w : World) (d : List (List Int)) (gs : List (List Nat)) (i : Nat) (c : List Nat) (f : Nat) (ad ag : Option Addr) (cd cg : Nat) (hn : d.length ≤ 65536) (hw : wordsOf d ≤ 131072) (hr : InRange d)
    (hs : Scc (grOf d) gs) (hcg : gs[i]? = some c) (hf : f ∈ c) (hback : HasBack (grOf d) c f) (hd : RowsAt w.heap.size w (.slice ad d.length cd) d) (hg : IntsAt w.heap.size w (.slice ag c.length cg) (ns c)) :
    Calls Try.prog 22 #[.slice ad d.length cd, .int .i64 (f : Int), .slice ag c.length cg] w fun e w' => CycSaid d c f w e w' := by
  have hcall := fun a b => cyc_any w a b d gs i c f ad ag cd cg hn hw hr hs hcg hf hback hd hg
  have HC : Hid _ := hcall
  clear hcall hw hr hs hcg hf hback hd hg
  go_enter Try.func22, Try.ntmps22
  go_wp2_with fail
  refine Calls.mono (HC.out _ _) ?_
  rintro e w' ⟨cv, R, rfl, rest⟩
  have HR : Hid (CycSaid d c f w (.returned cv) w') := ⟨cv, R, rfl, rest⟩
  clear rest HC
  go_wp2
  go_ret
  exact HR.out

end Go.Proofs.Qxb6603026a
