/-
  FnGroupsAreOrderedStronglyConnectedParts (function 4): one of its loops.
-/
import Derived.Test.Qxb6603026aL1Fwd
namespace Go.Proofs.Qxb6603026a
open Go.RowKit
set_option linter.unusedSimpArgs false
set_option linter.unusedVariables false


def BwdRel (B : Nat) (d : List (List Int)) (pr : List Int) (w4 : World) (so : List Int) (c : List Nat) (mark f : Nat) (qv hv : Value) (w : World) : Prop :=
  ∃ (h gq cap : Nat) (q : List Nat) (sf : List Int), h ≤ q.length ∧ hv = .int .i64 (h : Int) ∧ qv = .slice (some ⟨gq, 0, none⟩) q.length cap ∧ Bfs B d.length w4 (B + 1) B so c mark f gq cap q sf w ∧ Cl (revGr (grOf d) pr) c q h 0
def BwdIn (B : Nat) (d : List (List Int)) (pr : List Int) (w4 : World) (so : List Int) (c : List Nat) (mark f h x : Nat) (qv kv : Value) (w : World) : Prop :=
  ∃ (k gq cap : Nat) (q : List Nat) (sf : List Int), h < q.length ∧ nd0 q h = x ∧ k ≤ (revGr (grOf d) pr).deg x ∧ kv = .int .i64 ((below (edgesTo (grOf d) (grOf d).n) x + k : Nat) : Int) ∧ qv = .slice (some ⟨gq, 0, none⟩) q.length cap ∧ Bfs B d.length w4 (B + 1) B so c mark f gq cap q sf w ∧ Cl (revGr (grOf d) pr) c q h k

set_option maxRecDepth 100000 in
set_option maxHeartbeats 2000000 in
theorem bwdLoop (B : Nat) (w4 w : World) (d : List (List Int)) (gs : List (List Nat)) (sv pv whv : Value) (st pr : List Int) (g : Nat) (c : List Nat) (f gq cap : Nat) (sf so : List Int) {Q : Exit → Act → World → Prop} {x0 x1 x2 x3 x4 x6 x7 x8 x9 x12 x16 x18 x19 x20 x21 x23 x24 x25 x26 x27 x28 x29 x30 x31 x32 x33 x34 x35 x36 x37 x38 x39 x40 x41 x42 x43 x44 x45 x46 x47 x48 x49 x50 x51 x52 x53 x54 x55 x56 x57 x58 x59 x60 x61 x62 x63 x64 x65 x66 x67 x68 x69 x70 x71 x72 x73 x74 x75 x76 x77 x78 x79 x80 x81 x82 x83 x84 x85 x86 x87 x88 x89 x90 x91 x92 x93 x94 x95 x96 x97 x98 x99 x100 x101 x102 x103 x104 x105 x106 x107 x108 x109 x110 x111 x112 x113 x114 x115 x116 x117 x118 x119 x120 x121 x122 x123 x124 x125 x126 x127 x128 x129 x130 x131 x132 x133 x134 x135 x136 x137 x138 x139 x140 x141 x142 x143 x144 x145 x146 x147 x148 x149 x150 x151 x152 x153 x154 x155 x156 x157 x158 x159 x160 x161 x162 x163 x164 x165 x166 x167 x168 x169 x170 x171 x172 x173 x174 x175 x176 x177 x178 x179 x180 x181 x182 x183 x184 x185 x186 x187 x188 x189 x190 x191 x192 x193 x194 x195 x196 x197 x198 x199 x200 x201 x202 x203 x204 x205 x206 x207 x208 x209 x210 x211 x212 x213 x214 x215 x216 x217 x218 x219 x220 x221 x222 x223 x224 x225 x226 x227 x228 x229 x230 x231 x232 x233 : Value}
    (hn : d.length ≤ 65536) (hw : wordsOf d ≤ 131072) (hs : Scc (grOf d) gs) (hcg : gs[g]? = some c) (hgl : g ≤ 65536) (hsv : IntsAt B w4 sv st) (hpv : IntsAt B w4 pv pr) (hps : PredSpec (grOf d) st pr) (hv : IntsAt B w4 whv (fl d.length (whr gs)))
    (hb : Bfs B d.length w4 (B + 1) B so c (g + 1) f gq cap [f] sf w)
    (hQ : ∀ (y22 y23 y24 y25 y180 y181 y182 y183 y184 y185 y186 y187 y188 y189 y190 y191 y192 y193 y194 y195 y196 y197 y198 y199 y200 y201 y202 y203 y204 y205 y206 y207 y208 y209 y210 y211 y212 y213 y214 y215 y216 y217 y218 y219 y220 y221 y222 y223 y224 y225 y226 y227 y228 : Value) (gq1 cap1 : Nat) (q : List Nat) (sf1 : List Int) (w1 : World), Bfs B d.length w4 (B + 1) B so c (g + 1) f gq1 cap1 q sf1 w1 → Cl (revGr (grOf d) pr) c q q.length 0 → Q (.exit 10) ⟨List.toArray (x0 :: x1 :: x2 :: x3 :: x4 :: whv :: x6 :: x7 :: x8 :: x9 :: sv :: pv :: x12 :: .slice (some ⟨B + 1, 0, none⟩) d.length d.length :: .slice (some ⟨gq1, 0, none⟩) q.length cap1 :: .int .i64 (g : Int) :: x16 :: .int .i64 ((g : Int) + 1) :: x18 :: x19 :: x20 :: x21 :: y22 :: y23 :: y24 :: y25 :: x26 :: x27 :: x28 :: x29 :: x30 :: x31 :: x32 :: x33 :: x34 :: x35 :: x36 :: x37 :: x38 :: x39 :: x40 :: x41 :: x42 :: x43 :: x44 :: x45 :: x46 :: x47 :: x48 :: x49 :: x50 :: x51 :: x52 :: x53 :: x54 :: x55 :: x56 :: x57 :: x58 :: x59 :: x60 :: x61 :: x62 :: x63 :: x64 :: x65 :: x66 :: x67 :: x68 :: x69 :: x70 :: x71 :: x72 :: x73 :: x74 :: x75 :: x76 :: x77 :: x78 :: x79 :: x80 :: x81 :: x82 :: x83 :: x84 :: x85 :: x86 :: x87 :: x88 :: x89 :: x90 :: x91 :: x92 :: x93 :: x94 :: x95 :: x96 :: x97 :: x98 :: x99 :: x100 :: x101 :: x102 :: x103 :: x104 :: x105 :: x106 :: x107 :: x108 :: x109 :: x110 :: x111 :: x112 :: x113 :: x114 :: x115 :: x116 :: x117 :: x118 :: x119 :: x120 :: x121 :: x122 :: x123 :: x124 :: x125 :: x126 :: x127 :: x128 :: x129 :: x130 :: x131 :: x132 :: x133 :: x134 :: x135 :: x136 :: x137 :: x138 :: x139 :: x140 :: x141 :: x142 :: x143 :: x144 :: x145 :: x146 :: x147 :: x148 :: x149 :: x150 :: x151 :: x152 :: x153 :: x154 :: x155 :: x156 :: x157 :: x158 :: x159 :: x160 :: x161 :: x162 :: x163 :: x164 :: x165 :: x166 :: x167 :: x168 :: x169 :: x170 :: x171 :: x172 :: x173 :: x174 :: x175 :: x176 :: x177 :: x178 :: x179 :: y180 :: y181 :: y182 :: y183 :: y184 :: y185 :: y186 :: y187 :: y188 :: y189 :: y190 :: y191 :: y192 :: y193 :: y194 :: y195 :: y196 :: y197 :: y198 :: y199 :: y200 :: y201 :: y202 :: y203 :: y204 :: y205 :: y206 :: y207 :: y208 :: y209 :: y210 :: y211 :: y212 :: y213 :: y214 :: y215 :: y216 :: y217 :: y218 :: y219 :: y220 :: y221 :: y222 :: y223 :: y224 :: y225 :: y226 :: y227 :: y228 :: x229 :: x230 :: x231 :: x232 :: x233 :: ([] : List Value)), []⟩ w1) :
    Code.wp Try.prog (.loop (lp (lp (bodyOf Try.f4) 1) 1)) Q ⟨List.toArray (x0 :: x1 :: x2 :: x3 :: x4 :: whv :: x6 :: x7 :: x8 :: x9 :: sv :: pv :: x12 :: .slice (some ⟨B + 1, 0, none⟩) d.length d.length :: .slice (some ⟨gq, 0, none⟩) 1 cap :: .int .i64 (g : Int) :: x16 :: .int .i64 ((g : Int) + 1) :: x18 :: x19 :: x20 :: x21 :: .int .i64 0 :: x23 :: x24 :: x25 :: x26 :: x27 :: x28 :: x29 :: x30 :: x31 :: x32 :: x33 :: x34 :: x35 :: x36 :: x37 :: x38 :: x39 :: x40 :: x41 :: x42 :: x43 :: x44 :: x45 :: x46 :: x47 :: x48 :: x49 :: x50 :: x51 :: x52 :: x53 :: x54 :: x55 :: x56 :: x57 :: x58 :: x59 :: x60 :: x61 :: x62 :: x63 :: x64 :: x65 :: x66 :: x67 :: x68 :: x69 :: x70 :: x71 :: x72 :: x73 :: x74 :: x75 :: x76 :: x77 :: x78 :: x79 :: x80 :: x81 :: x82 :: x83 :: x84 :: x85 :: x86 :: x87 :: x88 :: x89 :: x90 :: x91 :: x92 :: x93 :: x94 :: x95 :: x96 :: x97 :: x98 :: x99 :: x100 :: x101 :: x102 :: x103 :: x104 :: x105 :: x106 :: x107 :: x108 :: x109 :: x110 :: x111 :: x112 :: x113 :: x114 :: x115 :: x116 :: x117 :: x118 :: x119 :: x120 :: x121 :: x122 :: x123 :: x124 :: x125 :: x126 :: x127 :: x128 :: x129 :: x130 :: x131 :: x132 :: x133 :: x134 :: x135 :: x136 :: x137 :: x138 :: x139 :: x140 :: x141 :: x142 :: x143 :: x144 :: x145 :: x146 :: x147 :: x148 :: x149 :: x150 :: x151 :: x152 :: x153 :: x154 :: x155 :: x156 :: x157 :: x158 :: x159 :: x160 :: x161 :: x162 :: x163 :: x164 :: x165 :: x166 :: x167 :: x168 :: x169 :: x170 :: x171 :: x172 :: x173 :: x174 :: x175 :: x176 :: x177 :: x178 :: x179 :: x180 :: x181 :: x182 :: x183 :: x184 :: x185 :: x186 :: x187 :: x188 :: x189 :: x190 :: x191 :: x192 :: x193 :: x194 :: x195 :: x196 :: x197 :: x198 :: x199 :: x200 :: x201 :: x202 :: x203 :: x204 :: x205 :: x206 :: x207 :: x208 :: x209 :: x210 :: x211 :: x212 :: x213 :: x214 :: x215 :: x216 :: x217 :: x218 :: x219 :: x220 :: x221 :: x222 :: x223 :: x224 :: x225 :: x226 :: x227 :: x228 :: x229 :: x230 :: x231 :: x232 :: x233 :: ([] : List Value)), []⟩ w := by
  conv => arg 2; arg 1; whnf
  obtain ⟨aw, bw, ow, cw, rfl, hmw, haw, hcw⟩ := hv
  rw [fl_length] at hmw haw
  simp only [fl_length] at hcw hQ
  rw [fl_length]
  have hst : st = fl (d.length + 1) (below (edgesTo (grOf d) (grOf d).n)) := hps.1
  have hprl : pr.length = below (edgesTo (grOf d) (grOf d).n) d.length := hps.2.1
  obtain ⟨as1, bs, os, cs, rfl, hms, has, hcs⟩ := hsv
  rw [hst, fl_length] at has
  rw [hst] at hcs
  simp only [fl_length] at hcs
  have hstl : st.length = d.length + 1 := by rw [hst, fl_length]
  rw [hstl] at hQ ⊢
  obtain ⟨ap, bp, op, cp, rfl, hmp, hap, hcp⟩ := hpv
  have hEl : (edgesTo (grOf d) (grOf d).n).length ≤ 131072 := by
    have := edgesTo_words d d.length
    unfold wordsOf at hw
    show (edgesTo (grOf d) d.length).length ≤ _
    omega
  have HS : Hid _ := hs
  have HCG : Hid _ := hcg
  have HPS : Hid _ := hps
  have HPL : Hid _ := hprl
  have hcl : c.length ≤ d.length := by
    have := length_le_of_nodup (hs.nd g c hcg) (m := List.range d.length) (fun v hv => List.mem_range.2 (hs.lt g c hcg v hv))
    simpa using this
  have hfc := hb.mks.sub f hb.has
  have hfn : f < d.length := hs.lt g c hcg f hfc
  obtain ⟨hpw, hbw⟩ := haw (by omega)
  obtain ⟨hps', hbs⟩ := has (by omega)
  cases hpw
  cases hps'
  clear hs hcg hw haw has hps hst hprl hstl hms
  go_loopw [14, 22] (fun qv hv w => BwdRel B d pr w4 so c (g + 1) f qv hv w) (fun _ hv _ => d.length - (intOf hv).toNat)
  case atStart => exact ⟨0, gq, cap, [f], sf, by simp, rfl, rfl, hb, Cl.start _ _ _⟩
  case round =>
    clear hb
    obtain ⟨h, gq1, cap1, q, sf1, hh, rfl, rfl, hb, hcl1⟩ := hrel
    have hqc := length_le_of_nodup hb.mks.nd hb.mks.sub
    by_cases hlt : h < q.length
    · obtain ⟨x, hx⟩ : ∃ x, nd0 q h = x := ⟨_, rfl⟩
      have hxc : x ∈ c := by rw [← hx]; exact hb.mks.sub _ (nd0_mem hlt)
      have hxn : x < d.length := HS.out.lt g c HCG.out x hxc
      have hqh : wr.cell? ⟨gq1, h, none⟩ = some (.int .i64 (x : Int)) := by
        rw [hb.row.cell (by omega), ints_get (by rw [ns_length]; exact hlt), at0_nd0 hlt, hx]
      have hs0 := hcs x (by omega)
      rw [at0_fl _ (by omega)] at hs0
      have hs1 := hcs (x + 1) (by omega)
      rw [at0_fl _ (by omega)] at hs1
      have hcell := (hb.blw.cell (p := ⟨bs, os + x, none⟩) (by exact hbs)).trans hs0
      have hbe1 := below_le (edgesTo (grOf d) (grOf d).n) (x + 1)
      have hbe2 := below_mono (edgesTo (grOf d) (grOf d).n) (u := x + 1) (v := d.length) (by omega)
      have hbe0 := below_mono (edgesTo (grOf d) (grOf d).n) (u := x) (v := x + 1) (by omega)
      obtain ⟨b0, HB0'⟩ : ∃ b0, b0 = below (edgesTo (grOf d) (grOf d).n) x := ⟨_, rfl⟩
      obtain ⟨b1, HB1'⟩ : ∃ b1, b1 = below (edgesTo (grOf d) (grOf d).n) (x + 1) := ⟨_, rfl⟩
      rw [← HB0'] at hcell hbe0 hs0
      rw [← HB1'] at hs1 hbe1 hbe2 hbe0
      have HBX : Hid (b0 = below (edgesTo (grOf d) (grOf d).n) x) := HB0'
      have HBY : Hid (b1 = below (edgesTo (grOf d) (grOf d).n) (x + 1)) := HB1'
      have hdeg : (revGr (grOf d) pr).deg x = b1 - b0 := by rw [HB0', HB1']; rfl
      have HDG : Hid _ := hdeg
      have HB0 : Hid _ := hb
      have HCL0 : Hid _ := hcl1
      have HX : Hid _ := hx
      have x0' : (0 : Int) ≤ (x : Int) := by omega
      have x1' : (x : Int) < (d.length : Int) := by omega
      clear hs0 hb hcl1 hx HB0' HB1' hdeg hcs
      go_wp2
      go_loopw [14, 24] (fun qv kv w => BwdIn B d pr w4 so c (g + 1) f h x qv kv w) (fun _ kv _ => b1 - (intOf kv).toNat)
      case atStart => exact ⟨0, gq1, cap1, q, sf1, hlt, HX.out, Nat.zero_le _, by rw [← HBX.out]; rfl, rfl, HB0.out, HCL0.out⟩
      case round =>
        clear HB0 HCL0 HX hqh hcell hqc hlt hh
        obtain ⟨k, gq2, cap2, q, sf2, hh, hx, hk1, rfl, rfl, hb, hcl1⟩ := hrel
        rw [HDG.out] at hk1
        rw [← HBX.out]
        have hqc := length_le_of_nodup hb.mks.nd hb.mks.sub
        have HB : Hid _ := hb
        have HCL : Hid _ := hcl1
        have HX : Hid _ := hx
        have hc1 := (hb.blw.cell (p := ⟨bs, os + (x + 1), none⟩) (by exact hbs)).trans hs1
        clear hb hcl1 hx
        by_cases hlk : k < b1 - b0
        · obtain ⟨hp1, hbB1⟩ := hap (by rw [HPL.out]; omega)
          cases hp1
          obtain ⟨j, hj1, hj2, hj3, hj4⟩ := PredSpec.rev_ok (v := x) (k := k) HPS.out hxn (by rw [HDG.out]; exact hlk)
          rw [← HBX.out] at hj1
          have hck := (HB.out.blw.cell (p := ⟨bp, op + (b0 + k), none⟩) (by exact hbB1)).trans (hcp (b0 + k) (by rw [HPL.out]; omega))
          rw [hj1] at hck
          have hjn : j < d.length := hj2
          have hnx : (revGr (grOf d) pr).nx (nd0 q h) k = j := by rw [HX.out]; exact hj4
          have hwj := (HB.out.blw.cell (p := ⟨bw, ow + j, none⟩) (by exact hbw)).trans (hcw j hjn)
          rw [at0_fl _ hjn] at hwj
          have hsj := HB.out.mrk.cell (j := j) (by rw [HB.out.mks.len]; exact hjn)
          have hsf := HB.out.mrk.frozen j
          have htell := HB.out.mks.tell j hjn
          have hmem := HS.out.mem_iff HCG.out hjn
          have HT : Hid _ := htell
          have HM : Hid _ := hmem
          have HN : Hid _ := hnx
          have j0 : (0 : Int) ≤ (j : Int) := by omega
          have j1 : (j : Int) < (d.length : Int) := by omega
          have hprl : b0 + k < pr.length := by rw [HPL.out]; omega
          have hprl' : pr.length ≤ 131072 := by rw [HPL.out]; have := below_le (edgesTo (grOf d) (grOf d).n) d.length; omega
          obtain ⟨y, hy⟩ : ∃ y, y = b0 + k := ⟨_, rfl⟩
          rw [← hy] at hck hprl ⊢
          have hyb : y < b1 := by omega
          have HY : Hid _ := hy
          clear hcp hcw hap htell hmem hnx hj1 hj2 hj3 hj4 hy
          by_cases hjg : whr gs j = g
          · by_cases hjq : j ∈ q
            · have t1 : ((whr gs j : Int) == (g : Int)) = true := by simp [hjg]
              have t2 : at0 sf2 j = ((g + 1 : Nat) : Int) := HT.out.2 hjq
              have t3 : (at0 sf2 j != (g : Int) + 1) = false := by rw [t2]; simp
              have HJQ : Hid _ := hjq
              clear t2 hjg hjq
              go_wp2
              go_roundw
              case rel => exact ⟨k + 1, gq2, cap2, q, sf2, hh, HX.out, by rw [HDG.out]; omega, by rw [← HBX.out, HY.out]; go_num, rfl, HB.out, Cl.step HCL.out (fun _ => by rw [HN.out]; exact HJQ.out)⟩
              case measure => simp [intOf]; omega
            · have t1 : ((whr gs j : Int) == (g : Int)) = true := by simp [hjg]
              have t2 : ¬ at0 sf2 j = ((g + 1 : Nat) : Int) := fun hh' => hjq (HT.out.1 hh')
              have t3 : (at0 sf2 j != (g : Int) + 1) = true := by
                rw [bne_iff_ne]
                exact fun hh' => t2 (by rw [hh']; omega)
              have hjc : j ∈ c := HM.out.2 hjg
              have HJQ : Hid _ := hjq
              have HJC : Hid _ := hjc
              obtain ⟨i3, p1, p2, p3, p4⟩ := info_parts Try.info3
              clear t2 hjg hjq hjc
              go_wp2_with (at_builtin; refine wpList_append_lies _ rfl (.tmp 225) (.tmp 227) 26 rfl (B + 2) 3 i3 (.int .i64 0) 1 8 Try.underlying26 p1 p2 p3 p4 rfl (by omega) (.slice (some ⟨gq2, 0, none⟩) q.length cap2) q.length (ints (ns q)) rfl (((HB.out.row.owns HB.out.low).kept (World.ownsRow.stored HB.out.mrk j _).2 (.inr (by simp [Value.ownBlock]; have := HB.out.low; omega))).alloc _) ⟨wr.heap.size, 0, none⟩ 1 1 [.int .i64 (j : Int)] rfl rfl (news_one (by simp) _ _) (oneCell_int _) (by omega) (by unfold maxLen; omega) (by omega) (by simp; have := HB.out.siz; omega) (wr.heap.size + 1) (by simp) ?_)
              intro g5 cap5 w5 ho5 hg5 hat5 hlt5
              have R := HB.out.push (by omega) (by omega) (by omega) (by omega) hjn HJC.out HJQ.out (z := (g : Int) + 1) (by omega) ho5 hg5
              have R2 := Cl.append HCL.out (j := j) hh
              clear ho5 hg5 HB HCL
              go_wp2
              go_roundw
              case rel =>
                refine ⟨k + 1, g5, cap5, q ++ [j], _, by simp; omega, by rw [nd0_append hh]; exact HX.out, by rw [HDG.out]; omega, by rw [← HBX.out, HY.out]; go_num, by simp, R, Cl.step R2 (fun _ => ?_)⟩
                rw [nd0_append hh, HN.out]; simp
              case measure => simp [intOf]; omega
          · have t1 : ((whr gs j : Int) == (g : Int)) = false := by
              rw [beq_eq_false_iff_ne]; omega
            have HJG : Hid _ := hjg
            clear hjg
            go_wp2
            go_roundw
            case rel => exact ⟨k + 1, gq2, cap2, q, sf2, hh, HX.out, by rw [HDG.out]; omega, by rw [← HBX.out, HY.out]; go_num, rfl, HB.out, Cl.step HCL.out (fun hm => absurd (HM.out.1 (by rw [← HN.out]; exact hm)) HJG.out)⟩
            case measure => simp [intOf]; omega
        · have hk' : k = b1 - b0 := by omega
          have hkk : b0 + k = b1 := by omega
          rw [hkk]
          have HKK : Hid _ := hk'
          clear hk' hkk
          go_wp2
          go_roundw
          case rel =>
            refine ⟨h + 1, gq2, cap2, q, sf2, by omega, by go_num, rfl, HB.out, Cl.next ?_⟩
            have h1 := HCL.out
            have e : (revGr (grOf d) pr).deg (nd0 q h) = k := by rw [HX.out, HDG.out, HKK.out]
            rw [e]; exact h1
          case measure => simp [intOf]; omega
    · have hh' : h = q.length := by omega
      subst hh'
      have HB0 : Hid _ := hb
      have HCL0 : Hid _ := hcl1
      clear hb hcl1
      go_wp2
      apply hQ
      · exact HB0.out
      · exact HCL0.out

end Go.Proofs.Qxb6603026a
