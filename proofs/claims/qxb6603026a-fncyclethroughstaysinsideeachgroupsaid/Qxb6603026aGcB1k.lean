/-
  graph.groups (function 31): one case of a round of the walk.
-/
import Derived.Test.Qxb6603026aGLoop3
import Derived.Deep.QuietTactic
import Derived.BigQuiet
import Derived.BigRegion
import Derived.Deep.RegionHeld3
import Derived.Outline
import Derived.StillTailTactics
namespace Go.Proofs.Qxb6603026a
open Go.RowKit
set_option linter.unusedSimpArgs false
set_option linter.unusedVariables false

set_option maxRecDepth 100000 in
set_option maxHeartbeats 1000000 in
theorem caseB1k (H r : Nat) (d : List (List Int)) (w0 wr : World) (bx : Obj) (s : TS) (sv wv gv : Value) 
    {K : Act → World → Prop} {Q : Exit → Act → World → Prop} {x0 x2 x3 x9 x12 x13 x14 x15 x16 x17 x18 x19 x20 x21 x22 x23 x24 x25 x26 x27 x28 x29 x30 x31 x32 x33 x34 x35 x36 x37 x38 x39 x40 x41 x42 x43 x44 x45 x46 x47 x48 x49 x50 x51 x52 x53 x54 x55 x56 x57 x58 x59 x60 x61 x62 x63 x64 x65 x66 x67 x68 x69 x70 x71 x72 x73 x74 x75 x76 x77 x78 x79 x80 x81 x82 x83 x84 x85 x86 x87 x88 x89 x90 x91 x92 x93 x94 x95 x96 x97 x98 x99 x100 x101 x102 x103 x104 x105 x106 x107 x108 x109 x110 x111 x112 x113 x114 x115 x116 x117 x118 x119 x120 x121 x122 x123 x124 x125 x126 x127 x128 x129 x130 x131 x132 x133 x134 x135 x136 x137 x138 x139 x140 x141 x142 x143 x144 x145 x146 x147 x148 x149 x150 x151 x152 x153 x154 x155 x156 x157 x158 x159 x160 x161 x162 x163 x164 x165 x166 x167 x168 x169 x170 : Value}
    (hK : ∀ (y13 y14 y15 y16 y17 y18 y43 y44 y45 y46 y47 y48 y49 y50 y51 y52 y53 y54 y55 y56 y57 y58 y59 y60 y61 y62 y63 y64 y65 y66 y67 y68 y69 y70 y71 y72 y73 y74 y75 y76 y77 y78 y79 y80 y81 y82 y83 y84 y85 y86 y87 y88 y89 y90 y91 y92 y93 y94 y95 y96 y97 y98 y99 y100 y101 y102 y103 y104 y105 y106 y107 y108 y109 y110 y111 y112 y113 y114 y115 y116 y117 y118 y119 y120 y121 y122 y123 y124 y125 y126 y127 y128 y129 y130 y131 y132 y133 y134 y135 y136 y137 y138 y139 y140 y141 y142 y143 y144 y145 y146 y147 y148 y149 y150 y151 y152 y153 y154 y155 y156 y157 y158 y159 y160 y161 y162 y163 y164 y165 y166 y167 y168 gv1 : Value) (w1 : World), Rel2 H r d w0 bx (mu (grOf d) s) gv1 w1 → K ⟨List.toArray (x0 :: .pointer (some ⟨H, 0, none⟩) :: x2 :: x3 :: .pointer (some ⟨H + 2, 0, none⟩) :: .pointer (some ⟨H + 4, 0, none⟩) :: .pointer (some ⟨H + 6, 0, none⟩) :: .pointer (some ⟨H + 7, 0, none⟩) :: gv1 :: x9 :: .pointer (some ⟨H + 9, 0, none⟩) :: .func (.func 37) #[] #[.pointer (some ⟨H + 8, 0, none⟩), .pointer (some ⟨H + 2, 0, none⟩), .pointer (some ⟨H + 4, 0, none⟩), .pointer (some ⟨H + 7, 0, none⟩), .pointer (some ⟨H + 6, 0, none⟩), .pointer (some ⟨H + 9, 0, none⟩)] :: x12 :: y13 :: y14 :: y15 :: y16 :: y17 :: y18 :: x19 :: x20 :: x21 :: x22 :: x23 :: x24 :: x25 :: x26 :: x27 :: x28 :: x29 :: x30 :: x31 :: x32 :: x33 :: x34 :: x35 :: x36 :: x37 :: x38 :: x39 :: x40 :: x41 :: x42 :: y43 :: y44 :: y45 :: y46 :: y47 :: y48 :: y49 :: y50 :: y51 :: y52 :: y53 :: y54 :: y55 :: y56 :: y57 :: y58 :: y59 :: y60 :: y61 :: y62 :: y63 :: y64 :: y65 :: y66 :: y67 :: y68 :: y69 :: y70 :: y71 :: y72 :: y73 :: y74 :: y75 :: y76 :: y77 :: y78 :: y79 :: y80 :: y81 :: y82 :: y83 :: y84 :: y85 :: y86 :: y87 :: y88 :: y89 :: y90 :: y91 :: y92 :: y93 :: y94 :: y95 :: y96 :: y97 :: y98 :: y99 :: y100 :: y101 :: y102 :: y103 :: y104 :: y105 :: y106 :: y107 :: y108 :: y109 :: y110 :: y111 :: y112 :: y113 :: y114 :: y115 :: y116 :: y117 :: y118 :: y119 :: y120 :: y121 :: y122 :: y123 :: y124 :: y125 :: y126 :: y127 :: y128 :: y129 :: y130 :: y131 :: y132 :: y133 :: y134 :: y135 :: y136 :: y137 :: y138 :: y139 :: y140 :: y141 :: y142 :: y143 :: y144 :: y145 :: y146 :: y147 :: y148 :: y149 :: y150 :: y151 :: y152 :: y153 :: y154 :: y155 :: y156 :: y157 :: y158 :: y159 :: y160 :: y161 :: y162 :: y163 :: y164 :: y165 :: y166 :: y167 :: y168 :: x169 :: x170 :: ([] : List Value)), []⟩ w1)
    (hn : d.length ≤ 65536) (hr : InRange d) (hw : wordsOf d ≤ 131072) (a b dv : Value) (hbx : bx = .cells #[a, b, dv, .slice none 0 0, .int .i64 0, .slice none 0 0, .map none] 54) (hd : RowsAt H w0 dv d) (HG : GAll H (grOf d) w0 bx s wr sv wv gv) (HIn : DfsIn (grOf d) r s) (HP : ∀ v, v ≤ r → v ∈ s.pre)
    (ws : List (Nat × Nat)) (i k : Nat) (e : s.wlk = ws ++ [(i, k)]) (hk : ¬ k < (row0 d i).length) (ws1 : List (Nat × Nat)) (p kp : Nat) (ews : ws = ws1 ++ [(p, kp)]) (hne : s.low i ≠ s.ord i) :
    Code.wp Try.prog (lp (lp (bodyOf Try.f31) 0) 0) (Exit.then K Q) ⟨List.toArray (x0 :: .pointer (some ⟨H, 0, none⟩) :: x2 :: x3 :: .pointer (some ⟨H + 2, 0, none⟩) :: .pointer (some ⟨H + 4, 0, none⟩) :: .pointer (some ⟨H + 6, 0, none⟩) :: .pointer (some ⟨H + 7, 0, none⟩) :: gv :: x9 :: .pointer (some ⟨H + 9, 0, none⟩) :: .func (.func 37) #[] #[.pointer (some ⟨H + 8, 0, none⟩), .pointer (some ⟨H + 2, 0, none⟩), .pointer (some ⟨H + 4, 0, none⟩), .pointer (some ⟨H + 7, 0, none⟩), .pointer (some ⟨H + 6, 0, none⟩), .pointer (some ⟨H + 9, 0, none⟩)] :: x12 :: x13 :: x14 :: x15 :: x16 :: x17 :: x18 :: x19 :: x20 :: x21 :: x22 :: x23 :: x24 :: x25 :: x26 :: x27 :: x28 :: x29 :: x30 :: x31 :: x32 :: x33 :: x34 :: x35 :: x36 :: x37 :: x38 :: x39 :: x40 :: x41 :: x42 :: x43 :: x44 :: x45 :: x46 :: x47 :: x48 :: x49 :: x50 :: x51 :: x52 :: x53 :: x54 :: x55 :: x56 :: x57 :: x58 :: x59 :: x60 :: x61 :: x62 :: x63 :: x64 :: x65 :: x66 :: x67 :: x68 :: x69 :: x70 :: x71 :: x72 :: x73 :: x74 :: x75 :: x76 :: x77 :: x78 :: x79 :: x80 :: x81 :: x82 :: x83 :: x84 :: x85 :: x86 :: x87 :: x88 :: x89 :: x90 :: x91 :: x92 :: x93 :: x94 :: x95 :: x96 :: x97 :: x98 :: x99 :: x100 :: x101 :: x102 :: x103 :: x104 :: x105 :: x106 :: x107 :: x108 :: x109 :: x110 :: x111 :: x112 :: x113 :: x114 :: x115 :: x116 :: x117 :: x118 :: x119 :: x120 :: x121 :: x122 :: x123 :: x124 :: x125 :: x126 :: x127 :: x128 :: x129 :: x130 :: x131 :: x132 :: x133 :: x134 :: x135 :: x136 :: x137 :: x138 :: x139 :: x140 :: x141 :: x142 :: x143 :: x144 :: x145 :: x146 :: x147 :: x148 :: x149 :: x150 :: x151 :: x152 :: x153 :: x154 :: x155 :: x156 :: x157 :: x158 :: x159 :: x160 :: x161 :: x162 :: x163 :: x164 :: x165 :: x166 :: x167 :: x168 :: x169 :: x170 :: ([] : List Value)), []⟩ wr := by
  obtain ⟨hi, hk0, hwl, hpl, his⟩ := HG.facts e
  subst hbx
  obtain ⟨bd, off, cap, ai, bi, oi, ci, rfl, hbox, hrow, hai, hcells⟩ := deps_at hd HG.blw HG.box hi
  obtain ⟨gw, wcap, rfl, hgw, HR, q1, q2⟩ := HG.top e
  have qf := HR.frozen (ws.length * 2 + 1)
  have HC := HG.cm
  obtain ⟨c2, f2⟩ := cell_of_box HC.c2
  obtain ⟨c4, f4⟩ := cell_of_box HC.c4
  obtain ⟨c6, f6⟩ := cell_of_box HC.c6
  obtain ⟨c9, f9⟩ := cell_of_box HC.c9
  have hir := HC.lowAt hi
  have i0 : (0 : Int) ≤ (i : Int) := by omega
  have i1 : (i : Int) < (d.length : Int) := by omega
  have k0 : (0 : Int) ≤ (k : Int) := by omega
  subst ews
  have q0 : wr.cell? ⟨gw, ws1.length * 2, none⟩ = some (.int .i64 (p : Int)) := by
    have h1 := frs_get (l := ws1 ++ [(p, kp)] ++ [(i, k)]) (i := ws1.length) (by simp)
    have h2 := HR.cell (j := ws1.length * 2) (by simp; omega)
    rw [h1.1] at h2
    rw [h2]
    simp
  have hcap := HR.cap_le
  have hl : (ws1 ++ [(p, kp)]).length = ws1.length + 1 := by simp
  rw [hl] at q1 q2 qf hwl hcap c9 HC HR HG
  have hpp := HG.facts2 e
  obtain ⟨hpn, hpi, hps⟩ := hpp
  have EE : Hid _ := e
  have HNE : Hid _ := hne
  have HHL : Hid _ := hl
  clear hne e hl
  have hkd : ¬ (k : Int) < ((row0 d i).length : Int) := by omega
  have hkd' : decide ((k : Int) < ((row0 d i).length : Int)) = false := by simpa using hkd
  have hcap1 : (ws1.length : Int) + 1 ≤ (wcap : Int) := by omega
  conv => arg 2; whnf
  have HGh : Hid _ := HG
  have HCh : Hid _ := HC
  clear HG HC hcells hai
  go_wp2_with fail
  go_quiet (fail)
  generalize nq = n1
  go_wp2_with fail
  obtain ⟨b1, b2⟩ := (HGh.out.gm.drewN n1).popw' (ws := ws1 ++ [(p, kp)]) EE.out HHL.out
  refine at_world (fun w1 => GMem H d.length { s with wlk := ws1 ++ [(p, kp)] } w1 sv (.slice (some ⟨gw, 0, none⟩) (ws1.length + 1) wcap) ∧ GFr H (SW sv (.slice (some ⟨gw, 0, none⟩) (ws1.length + 1 + 1) wcap)) wr w1) ⟨b1, ((GFr.refl H _ wr).drewN n1).trans b2⟩ ?_
  clear b1 b2 c2 f2 c4 f4 c6 f6 c9 f9 hir q0 q1 q2 qf hrow hbox HR HCh
  rintro w1 ⟨m1, m2⟩
  have HC1 : CMem H d.length s.ord s.low (fun v => decide (v ∈ s.stk)) s.pre.length sv (.slice (some ⟨gw, 0, none⟩) (ws1.length + 1) wcap) w1 := m1.mem
  have hpr := HC1.lowAt hpn
  have hir := HC1.lowAt hi
  have hpf := HC1.low.frozen p
  obtain ⟨c4, f4⟩ := cell_of_box HC1.c4
  have HM1 : Hid _ := m1
  have HM2 : Hid _ := m2
  have HC2 : Hid _ := HC1
  clear m1 m2 HC1
  have p0 : (0 : Int) ≤ (p : Int) := by omega
  have p1 : (p : Int) < (d.length : Int) := by omega
  have hmx : Try.prog.follows .mixedOrders = true := by kernel_rfl
  go_still_tail 12, hmx
  have R1 : Hid (∀ z : Int, z = ((min (s.low p) (s.low i) : Nat) : Int) → (GMem H d.length { s with wlk := ws1 ++ [(p, kp)], fin := s.fin ++ [i], low := s.parLow (ws1 ++ [(p, kp)]) i } (w1.setCell ⟨H + 3, p, none⟩ (.int .i64 z)).drew sv (.slice (some ⟨gw, 0, none⟩) (ws1.length + 1) wcap) ∧ GFr H (SW sv (.slice (some ⟨gw, 0, none⟩) (ws1.length + 1 + 1) wcap)) wr (w1.setCell ⟨H + 3, p, none⟩ (.int .i64 z)).drew)) := fun z hz =>
    ⟨⟨((HC2.out.st3' hz).drew).congr (fun _ _ => rfl) (fun v _ => by simp [TS.parLow]) (fun _ _ => rfl), (ownsRow_setCell_below HM1.out.stk (by simp) _).drew, (ownsRow_setCell_below HM1.out.wlk (by simp) _).drew⟩, (HM2.out.setCell (by simp) (fun h => by simp at h) _).drew⟩
  clear HC2 HM1 HM2
  go_wp2_with fail
  all_goals
    refine at_world (fun w2 => GMem H d.length { s with wlk := ws1 ++ [(p, kp)], fin := s.fin ++ [i], low := s.parLow (ws1 ++ [(p, kp)]) i } w2 sv (.slice (some ⟨gw, 0, none⟩) (ws1.length + 1) wcap) ∧ GFr H (SW sv (.slice (some ⟨gw, 0, none⟩) (ws1.length + 1 + 1) wcap)) wr w2) (R1.out _ (by omega)) ?_
    clear R1 c4 f4 hir hpr hpf
    rintro w2 ⟨m1, m2⟩
    have HC1 : CMem H d.length s.ord (s.parLow (ws1 ++ [(p, kp)]) i) (fun v => decide (v ∈ s.stk)) s.pre.length sv (.slice (some ⟨gw, 0, none⟩) (ws1.length + 1) wcap) w2 := m1.mem
    have hir := HC1.lowAt hi
    rw [parLow_other hpi.symm] at hir
    have hor := HC1.ordAt hi
    obtain ⟨c2, f2⟩ := cell_of_box HC1.c2
    obtain ⟨c4, f4⟩ := cell_of_box HC1.c4
    have HM1 : Hid _ := m1
    have HM2 : Hid _ := m2
    clear m1 m2 HC1
    go_quiet (fail)
    generalize nq = n2
    have hb : ((s.low i : Int) != (s.ord i : Int)) = true := by
      simp only [bne_iff_ne, ne_eq, Int.natCast_inj]
      exact HNE.out
    have R := end_keep HGh.out HIn HP EE.out hk HNE.out (HM1.out.drewN n2) (HM2.out.drewN n2)
    clear HM1 HM2 HGh
    go_wp2
    exact R

end Go.Proofs.Qxb6603026a
