/-
  graph.groups (function 31): one case of a round of the walk.
-/
import Derived.Test.Qxb6603026aGLoop3
import Derived.Deep.QuietTactic
import Derived.BigQuiet
import Derived.BigRegion
import Derived.Deep.RegionHeld3
import Derived.Outline
import Derived.StillTailTactics
namespace Go.Proofs.Qxb6603026a
open Go.RowKit
set_option linter.unusedSimpArgs false
set_option linter.unusedVariables false

set_option maxRecDepth 100000 in
set_option maxHeartbeats 1000000 in
theorem caseA3 (H r : Nat) (d : List (List Int)) (w0 wr : World) (bx : Obj) (s : TS) (sv wv gv : Value) 
    {K : Act → World → Prop} {Q : Exit → Act → World → Prop} {x0 x2 x3 x9 x12 x13 x14 x15 x16 x17 x18 x19 x20 x21 x22 x23 x24 x25 x26 x27 x28 x29 x30 x31 x32 x33 x34 x35 x36 x37 x38 x39 x40 x41 x42 x43 x44 x45 x46 x47 x48 x49 x50 x51 x52 x53 x54 x55 x56 x57 x58 x59 x60 x61 x62 x63 x64 x65 x66 x67 x68 x69 x70 x71 x72 x73 x74 x75 x76 x77 x78 x79 x80 x81 x82 x83 x84 x85 x86 x87 x88 x89 x90 x91 x92 x93 x94 x95 x96 x97 x98 x99 x100 x101 x102 x103 x104 x105 x106 x107 x108 x109 x110 x111 x112 x113 x114 x115 x116 x117 x118 x119 x120 x121 x122 x123 x124 x125 x126 x127 x128 x129 x130 x131 x132 x133 x134 x135 x136 x137 x138 x139 x140 x141 x142 x143 x144 x145 x146 x147 x148 x149 x150 x151 x152 x153 x154 x155 x156 x157 x158 x159 x160 x161 x162 x163 x164 x165 x166 x167 x168 x169 x170 : Value}
    (hK : ∀ (y13 y14 y15 y16 y17 y18 y43 y44 y45 y46 y47 y48 y49 y50 y51 y52 y53 y54 y55 y56 y57 y58 y59 y60 y61 y62 y63 y64 y65 y66 y67 y68 y69 y70 y71 y72 y73 y74 y75 y76 y77 y78 y79 y80 y81 y82 y83 y84 y85 y86 y87 y88 y89 y90 y91 y92 y93 y94 y95 y96 y97 y98 y99 y100 y101 y102 y103 y104 y105 y106 y107 y108 y109 y110 y111 y112 y113 y114 y115 y116 y117 y118 y119 y120 y121 y122 y123 y124 y125 y126 y127 y128 y129 y130 y131 y132 y133 y134 y135 y136 y137 y138 y139 y140 y141 y142 y143 y144 y145 y146 y147 y148 y149 y150 y151 y152 y153 y154 y155 y156 y157 y158 y159 y160 y161 y162 y163 y164 y165 y166 y167 y168 gv1 : Value) (w1 : World), Rel2 H r d w0 bx (mu (grOf d) s) gv1 w1 → K ⟨List.toArray (x0 :: .pointer (some ⟨H, 0, none⟩) :: x2 :: x3 :: .pointer (some ⟨H + 2, 0, none⟩) :: .pointer (some ⟨H + 4, 0, none⟩) :: .pointer (some ⟨H + 6, 0, none⟩) :: .pointer (some ⟨H + 7, 0, none⟩) :: gv1 :: x9 :: .pointer (some ⟨H + 9, 0, none⟩) :: .func (.func 37) #[] #[.pointer (some ⟨H + 8, 0, none⟩), .pointer (some ⟨H + 2, 0, none⟩), .pointer (some ⟨H + 4, 0, none⟩), .pointer (some ⟨H + 7, 0, none⟩), .pointer (some ⟨H + 6, 0, none⟩), .pointer (some ⟨H + 9, 0, none⟩)] :: x12 :: y13 :: y14 :: y15 :: y16 :: y17 :: y18 :: x19 :: x20 :: x21 :: x22 :: x23 :: x24 :: x25 :: x26 :: x27 :: x28 :: x29 :: x30 :: x31 :: x32 :: x33 :: x34 :: x35 :: x36 :: x37 :: x38 :: x39 :: x40 :: x41 :: x42 :: y43 :: y44 :: y45 :: y46 :: y47 :: y48 :: y49 :: y50 :: y51 :: y52 :: y53 :: y54 :: y55 :: y56 :: y57 :: y58 :: y59 :: y60 :: y61 :: y62 :: y63 :: y64 :: y65 :: y66 :: y67 :: y68 :: y69 :: y70 :: y71 :: y72 :: y73 :: y74 :: y75 :: y76 :: y77 :: y78 :: y79 :: y80 :: y81 :: y82 :: y83 :: y84 :: y85 :: y86 :: y87 :: y88 :: y89 :: y90 :: y91 :: y92 :: y93 :: y94 :: y95 :: y96 :: y97 :: y98 :: y99 :: y100 :: y101 :: y102 :: y103 :: y104 :: y105 :: y106 :: y107 :: y108 :: y109 :: y110 :: y111 :: y112 :: y113 :: y114 :: y115 :: y116 :: y117 :: y118 :: y119 :: y120 :: y121 :: y122 :: y123 :: y124 :: y125 :: y126 :: y127 :: y128 :: y129 :: y130 :: y131 :: y132 :: y133 :: y134 :: y135 :: y136 :: y137 :: y138 :: y139 :: y140 :: y141 :: y142 :: y143 :: y144 :: y145 :: y146 :: y147 :: y148 :: y149 :: y150 :: y151 :: y152 :: y153 :: y154 :: y155 :: y156 :: y157 :: y158 :: y159 :: y160 :: y161 :: y162 :: y163 :: y164 :: y165 :: y166 :: y167 :: y168 :: x169 :: x170 :: ([] : List Value)), []⟩ w1)
    (hn : d.length ≤ 65536) (hr : InRange d) (hw : wordsOf d ≤ 131072) (a b dv : Value) (hbx : bx = .cells #[a, b, dv, .slice none 0 0, .int .i64 0, .slice none 0 0, .map none] 54) (hd : RowsAt H w0 dv d) (HG : GAll H (grOf d) w0 bx s wr sv wv gv) (HIn : DfsIn (grOf d) r s) (HP : ∀ v, v ≤ r → v ∈ s.pre)
    (ws : List (Nat × Nat)) (i k : Nat) (e : s.wlk = ws ++ [(i, k)]) (hk : k < (row0 d i).length) (hpr : (at0 (row0 d i) k).toNat ∈ s.pre) (hst : (at0 (row0 d i) k).toNat ∉ s.stk) :
    Code.wp Try.prog (lp (lp (bodyOf Try.f31) 0) 0) (Exit.then K Q) ⟨List.toArray (x0 :: .pointer (some ⟨H, 0, none⟩) :: x2 :: x3 :: .pointer (some ⟨H + 2, 0, none⟩) :: .pointer (some ⟨H + 4, 0, none⟩) :: .pointer (some ⟨H + 6, 0, none⟩) :: .pointer (some ⟨H + 7, 0, none⟩) :: gv :: x9 :: .pointer (some ⟨H + 9, 0, none⟩) :: .func (.func 37) #[] #[.pointer (some ⟨H + 8, 0, none⟩), .pointer (some ⟨H + 2, 0, none⟩), .pointer (some ⟨H + 4, 0, none⟩), .pointer (some ⟨H + 7, 0, none⟩), .pointer (some ⟨H + 6, 0, none⟩), .pointer (some ⟨H + 9, 0, none⟩)] :: x12 :: x13 :: x14 :: x15 :: x16 :: x17 :: x18 :: x19 :: x20 :: x21 :: x22 :: x23 :: x24 :: x25 :: x26 :: x27 :: x28 :: x29 :: x30 :: x31 :: x32 :: x33 :: x34 :: x35 :: x36 :: x37 :: x38 :: x39 :: x40 :: x41 :: x42 :: x43 :: x44 :: x45 :: x46 :: x47 :: x48 :: x49 :: x50 :: x51 :: x52 :: x53 :: x54 :: x55 :: x56 :: x57 :: x58 :: x59 :: x60 :: x61 :: x62 :: x63 :: x64 :: x65 :: x66 :: x67 :: x68 :: x69 :: x70 :: x71 :: x72 :: x73 :: x74 :: x75 :: x76 :: x77 :: x78 :: x79 :: x80 :: x81 :: x82 :: x83 :: x84 :: x85 :: x86 :: x87 :: x88 :: x89 :: x90 :: x91 :: x92 :: x93 :: x94 :: x95 :: x96 :: x97 :: x98 :: x99 :: x100 :: x101 :: x102 :: x103 :: x104 :: x105 :: x106 :: x107 :: x108 :: x109 :: x110 :: x111 :: x112 :: x113 :: x114 :: x115 :: x116 :: x117 :: x118 :: x119 :: x120 :: x121 :: x122 :: x123 :: x124 :: x125 :: x126 :: x127 :: x128 :: x129 :: x130 :: x131 :: x132 :: x133 :: x134 :: x135 :: x136 :: x137 :: x138 :: x139 :: x140 :: x141 :: x142 :: x143 :: x144 :: x145 :: x146 :: x147 :: x148 :: x149 :: x150 :: x151 :: x152 :: x153 :: x154 :: x155 :: x156 :: x157 :: x158 :: x159 :: x160 :: x161 :: x162 :: x163 :: x164 :: x165 :: x166 :: x167 :: x168 :: x169 :: x170 :: ([] : List Value)), []⟩ wr := by
  obtain ⟨hi, hk0, hwl, hpl, his⟩ := HG.facts e
  subst hbx
  obtain ⟨bd, off, cap, ai, bi, oi, ci, rfl, hbox, hrow, hai, hcells⟩ := deps_at hd HG.blw HG.box hi
  obtain ⟨gw, wcap, rfl, hgw, HR, q1, q2⟩ := HG.top e
  have qf := HR.frozen (ws.length * 2 + 1)
  have HC := HG.cm
  obtain ⟨c2, f2⟩ := cell_of_box HC.c2
  obtain ⟨c4, f4⟩ := cell_of_box HC.c4
  obtain ⟨c6, f6⟩ := cell_of_box HC.c6
  obtain ⟨c9, f9⟩ := cell_of_box HC.c9
  have hir := HC.lowAt hi
  have i0 : (0 : Int) ≤ (i : Int) := by omega
  have i1 : (i : Int) < (d.length : Int) := by omega
  have k0 : (0 : Int) ≤ (k : Int) := by omega
  obtain rfl := hai (by omega)
  have hck := hcells k hk
  have hj := hr i hi k hk
  obtain ⟨j, HJ⟩ : ∃ j : Nat, at0 (row0 d i) k = (j : Int) := ⟨(at0 (row0 d i) k).toNat, by omega⟩
  rw [HJ] at hck hj
  have HJ : Hid (at0 (row0 d i) k = (j : Int)) := HJ
  have hjn : j < d.length := by omega
  have j0 : (0 : Int) ≤ (j : Int) := by omega
  have j1 : (j : Int) < (d.length : Int) := by omega
  have k1 : (k : Int) < ((row0 d i).length : Int) := by omega
  have hoj := HC.ordAt hjn
  have hsj := HC.onsAt hjn
  have hkb : (row0 d i).length ≤ 131072 := row_le hw hi
  have hjs : j ∉ s.stk := by rw [HJ.out] at hst; exact hst
  have hjp : j ∈ s.pre := by rw [HJ.out] at hpr; exact hpr
  clear hst hpr
  have hz : ((s.ord j : Int) == 0) = false := by
    have := ordOf_pos.2 hjp
    simp [TS.ord]; omega
  have hy : (decide (j ∈ s.stk)) = false := by simpa using hjs
  conv => arg 2; whnf
  have HGh : Hid _ := HG
  have HCh : Hid _ := HC
  clear HG HC hcells hai
  go_wp2_with fail
  go_quiet (fail)
  generalize nq = n1
  go_wp2_with fail
  go_quiet (fail)
  generalize nq = n2
  go_wp2_with fail
  obtain ⟨b1, b2⟩ := (HGh.out.gm.drewN (n1 + n2)).bumpw e hgw (z := (k : Int) + 1) (by omega)
  have R := end_done HGh.out HIn HP e hk HJ.out hjp hjs b1 (((GFr.refl H _ wr).drewN (n1 + n2)).trans b2)
  exact R

end Go.Proofs.Qxb6603026a
