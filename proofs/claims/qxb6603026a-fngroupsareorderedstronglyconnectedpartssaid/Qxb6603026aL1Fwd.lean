/-
  FnGroupsAreOrderedStronglyConnectedParts (function 4): one of its loops.
-/
import Derived.Test.Qxb6603026aGroupOf
import Derived.Test.Qxb6603026aPred
import Derived.Test.Qxb6603026aBfsPure
import Derived.Outline
namespace Go.Proofs.Qxb6603026a
open Go.RowKit
set_option linter.unusedSimpArgs false
set_option linter.unusedVariables false

/-- a search inside a group, in memory: Sm the marks' row, So the other search's row, gq the queue's block -/
structure Bfs (B n : Nat) (w4 : World) (Sm So : Nat) (so : List Int) (c : List Nat) (mark f gq cap : Nat) (q : List Nat) (sf : List Int) (w : World) : Prop where
  blw : Below B w4 w
  siz : B + 2 ≤ w.heap.size
  mrk : IRow w Sm n sf
  oth : IRow w So n so
  row : Row w 3 1 gq q.length cap (ints (ns q))
  low : B + 2 ≤ gq
  mks : Marks c n mark q sf
  has : f ∈ q

theorem Bfs.push {B n : Nat} {w4 w w3 : World} {Sm So : Nat} {so : List Int} {c : List Nat} {mark f gq cap gq' cap' : Nat} {q : List Nat} {sf : List Int} {j : Nat} {z : Int} {ob : Obj} (h : Bfs B n w4 Sm So so c mark f gq cap q sf w)
    (h1 : B ≤ Sm) (h2 : Sm < B + 2) (h3 : So < B + 2) (h4 : Sm ≠ So) (hj : j < n) (hjc : j ∈ c) (hjq : j ∉ q) (hz : z = (mark : Int))
    (ho : w3.ownsRow (B + 2) 3 1 (.slice (some ⟨gq', 0, none⟩) (q.length + 1) cap') (q.length + 1) (ints (ns q) ++ [.int .i64 (j : Int)])) (hg : ((w.setCell ⟨Sm, j, none⟩ (.int .i64 z)).alloc ob).grownBy w3 (some gq)) :
    Bfs B n w4 Sm So so c mark f gq' cap' (q ++ [j]) (sf.set j (mark : Int)) w3 := by
  subst hz
  have hl := h.low
  have hs := h.siz
  refine ⟨?_, ?_, ?_, ?_, ?_, ?_, h.mks.add hj hjc hjq, by simp [h.has]⟩
  · exact ((h.blw.setCell h1 _).alloc (by simp; omega) ob).grown hg (by simp; omega) (fun k hk => by cases hk; omega)
  · have := hg.size; simp at this; omega
  · exact ((h.mrk.set j _).alloc ob).grown hg (by simp; omega)
  · exact ((h.oth.other (a := ⟨Sm, j, none⟩) h4 _).alloc ob).grown hg (by simp; omega)
  · have e : ints (ns (q ++ [j])) = ints (ns q) ++ [.int .i64 (j : Int)] := by simp [ns, ints]
    have hl' : (q ++ [j]).length = q.length + 1 := by simp
    rw [e, hl']; exact Row.of_owns ho
  · exact (World.ownsRow.lt ho gq' rfl).1

def FwdRel (B : Nat) (d : List (List Int)) (w4 : World) (so : List Int) (c : List Nat) (mark f : Nat) (qv hv : Value) (w : World) : Prop :=
  ∃ (h gq cap : Nat) (q : List Nat) (sf : List Int), h ≤ q.length ∧ hv = .int .i64 (h : Int) ∧ qv = .slice (some ⟨gq, 0, none⟩) q.length cap ∧ Bfs B d.length w4 B (B + 1) so c mark f gq cap q sf w ∧ Cl (grOf d) c q h 0
def FwdIn (B : Nat) (d : List (List Int)) (w4 : World) (so : List Int) (c : List Nat) (mark f h x : Nat) (qv kv : Value) (w : World) : Prop :=
  ∃ (k gq cap : Nat) (q : List Nat) (sf : List Int), h < q.length ∧ nd0 q h = x ∧ k ≤ (row0 d x).length ∧ kv = .int .i64 (k : Int) ∧ qv = .slice (some ⟨gq, 0, none⟩) q.length cap ∧ Bfs B d.length w4 B (B + 1) so c mark f gq cap q sf w ∧ Cl (grOf d) c q h k

set_option maxRecDepth 100000 in
set_option maxHeartbeats 2000000 in
theorem fwdLoop (B : Nat) (w4 w : World) (d : List (List Int)) (gs : List (List Nat)) (ad : Option Addr) (cd : Nat) (whv : Value) (g : Nat) (c : List Nat) (f gq cap : Nat) (sf so : List Int) {Q : Exit → Act → World → Prop} {x1 x2 x3 x4 x6 x7 x8 x9 x10 x11 x13 x16 x19 x20 x21 x22 x23 x24 x25 x26 x27 x28 x29 x30 x31 x32 x33 x34 x35 x36 x37 x38 x39 x40 x41 x42 x43 x44 x45 x46 x47 x48 x49 x50 x51 x52 x53 x54 x55 x56 x57 x58 x59 x60 x61 x62 x63 x64 x65 x66 x67 x68 x69 x70 x71 x72 x73 x74 x75 x76 x77 x78 x79 x80 x81 x82 x83 x84 x85 x86 x87 x88 x89 x90 x91 x92 x93 x94 x95 x96 x97 x98 x99 x100 x101 x102 x103 x104 x105 x106 x107 x108 x109 x110 x111 x112 x113 x114 x115 x116 x117 x118 x119 x120 x121 x122 x123 x124 x125 x126 x127 x128 x129 x130 x131 x132 x133 x134 x135 x136 x137 x138 x139 x140 x141 x142 x143 x144 x145 x146 x147 x148 x149 x150 x151 x152 x153 x154 x155 x156 x157 x158 x159 x160 x161 x162 x163 x164 x165 x166 x167 x168 x169 x170 x171 x172 x173 x174 x175 x176 x177 x178 x179 x180 x181 x182 x183 x184 x185 x186 x187 x188 x189 x190 x191 x192 x193 x194 x195 x196 x197 x198 x199 x200 x201 x202 x203 x204 x205 x206 x207 x208 x209 x210 x211 x212 x213 x214 x215 x216 x217 x218 x219 x220 x221 x222 x223 x224 x225 x226 x227 x228 x229 x230 x231 x232 x233 : Value}
    (hn : d.length ≤ 65536) (hw : wordsOf d ≤ 131072) (hr : InRange d) (hs : Scc (grOf d) gs) (hcg : gs[g]? = some c) (hgl : g ≤ 65536) (hd : RowsAt B w4 (.slice ad d.length cd) d) (hv : IntsAt B w4 whv (fl d.length (whr gs)))
    (hb : Bfs B d.length w4 B (B + 1) so c (g + 1) f gq cap [f] sf w)
    (hQ : ∀ (y18 y19 y20 y21 y116 y117 y118 y119 y120 y121 y122 y123 y124 y125 y126 y127 y128 y129 y130 y131 y132 y133 y134 y135 y136 y137 y138 y139 y140 y141 y142 y143 y144 y145 y146 y147 y148 y149 y150 y151 y152 y153 y154 y155 y156 y157 y158 y159 y160 : Value) (gq1 cap1 : Nat) (q : List Nat) (sf1 : List Int) (w1 : World), Bfs B d.length w4 B (B + 1) so c (g + 1) f gq1 cap1 q sf1 w1 → Cl (grOf d) c q q.length 0 → Q (.exit 6) ⟨List.toArray (.slice ad d.length cd :: x1 :: x2 :: x3 :: x4 :: whv :: x6 :: x7 :: x8 :: x9 :: x10 :: x11 :: .slice (some ⟨B, 0, none⟩) d.length d.length :: x13 :: .slice (some ⟨gq1, 0, none⟩) q.length cap1 :: .int .i64 (g : Int) :: x16 :: .int .i64 ((g : Int) + 1) :: y18 :: y19 :: y20 :: y21 :: x22 :: x23 :: x24 :: x25 :: x26 :: x27 :: x28 :: x29 :: x30 :: x31 :: x32 :: x33 :: x34 :: x35 :: x36 :: x37 :: x38 :: x39 :: x40 :: x41 :: x42 :: x43 :: x44 :: x45 :: x46 :: x47 :: x48 :: x49 :: x50 :: x51 :: x52 :: x53 :: x54 :: x55 :: x56 :: x57 :: x58 :: x59 :: x60 :: x61 :: x62 :: x63 :: x64 :: x65 :: x66 :: x67 :: x68 :: x69 :: x70 :: x71 :: x72 :: x73 :: x74 :: x75 :: x76 :: x77 :: x78 :: x79 :: x80 :: x81 :: x82 :: x83 :: x84 :: x85 :: x86 :: x87 :: x88 :: x89 :: x90 :: x91 :: x92 :: x93 :: x94 :: x95 :: x96 :: x97 :: x98 :: x99 :: x100 :: x101 :: x102 :: x103 :: x104 :: x105 :: x106 :: x107 :: x108 :: x109 :: x110 :: x111 :: x112 :: x113 :: x114 :: x115 :: y116 :: y117 :: y118 :: y119 :: y120 :: y121 :: y122 :: y123 :: y124 :: y125 :: y126 :: y127 :: y128 :: y129 :: y130 :: y131 :: y132 :: y133 :: y134 :: y135 :: y136 :: y137 :: y138 :: y139 :: y140 :: y141 :: y142 :: y143 :: y144 :: y145 :: y146 :: y147 :: y148 :: y149 :: y150 :: y151 :: y152 :: y153 :: y154 :: y155 :: y156 :: y157 :: y158 :: y159 :: y160 :: x161 :: x162 :: x163 :: x164 :: x165 :: x166 :: x167 :: x168 :: x169 :: x170 :: x171 :: x172 :: x173 :: x174 :: x175 :: x176 :: x177 :: x178 :: x179 :: x180 :: x181 :: x182 :: x183 :: x184 :: x185 :: x186 :: x187 :: x188 :: x189 :: x190 :: x191 :: x192 :: x193 :: x194 :: x195 :: x196 :: x197 :: x198 :: x199 :: x200 :: x201 :: x202 :: x203 :: x204 :: x205 :: x206 :: x207 :: x208 :: x209 :: x210 :: x211 :: x212 :: x213 :: x214 :: x215 :: x216 :: x217 :: x218 :: x219 :: x220 :: x221 :: x222 :: x223 :: x224 :: x225 :: x226 :: x227 :: x228 :: x229 :: x230 :: x231 :: x232 :: x233 :: ([] : List Value)), []⟩ w1) :
    Code.wp Try.prog (.loop (lp (lp (bodyOf Try.f4) 1) 0)) Q ⟨List.toArray (.slice ad d.length cd :: x1 :: x2 :: x3 :: x4 :: whv :: x6 :: x7 :: x8 :: x9 :: x10 :: x11 :: .slice (some ⟨B, 0, none⟩) d.length d.length :: x13 :: .slice (some ⟨gq, 0, none⟩) 1 cap :: .int .i64 (g : Int) :: x16 :: .int .i64 ((g : Int) + 1) :: .int .i64 0 :: x19 :: x20 :: x21 :: x22 :: x23 :: x24 :: x25 :: x26 :: x27 :: x28 :: x29 :: x30 :: x31 :: x32 :: x33 :: x34 :: x35 :: x36 :: x37 :: x38 :: x39 :: x40 :: x41 :: x42 :: x43 :: x44 :: x45 :: x46 :: x47 :: x48 :: x49 :: x50 :: x51 :: x52 :: x53 :: x54 :: x55 :: x56 :: x57 :: x58 :: x59 :: x60 :: x61 :: x62 :: x63 :: x64 :: x65 :: x66 :: x67 :: x68 :: x69 :: x70 :: x71 :: x72 :: x73 :: x74 :: x75 :: x76 :: x77 :: x78 :: x79 :: x80 :: x81 :: x82 :: x83 :: x84 :: x85 :: x86 :: x87 :: x88 :: x89 :: x90 :: x91 :: x92 :: x93 :: x94 :: x95 :: x96 :: x97 :: x98 :: x99 :: x100 :: x101 :: x102 :: x103 :: x104 :: x105 :: x106 :: x107 :: x108 :: x109 :: x110 :: x111 :: x112 :: x113 :: x114 :: x115 :: x116 :: x117 :: x118 :: x119 :: x120 :: x121 :: x122 :: x123 :: x124 :: x125 :: x126 :: x127 :: x128 :: x129 :: x130 :: x131 :: x132 :: x133 :: x134 :: x135 :: x136 :: x137 :: x138 :: x139 :: x140 :: x141 :: x142 :: x143 :: x144 :: x145 :: x146 :: x147 :: x148 :: x149 :: x150 :: x151 :: x152 :: x153 :: x154 :: x155 :: x156 :: x157 :: x158 :: x159 :: x160 :: x161 :: x162 :: x163 :: x164 :: x165 :: x166 :: x167 :: x168 :: x169 :: x170 :: x171 :: x172 :: x173 :: x174 :: x175 :: x176 :: x177 :: x178 :: x179 :: x180 :: x181 :: x182 :: x183 :: x184 :: x185 :: x186 :: x187 :: x188 :: x189 :: x190 :: x191 :: x192 :: x193 :: x194 :: x195 :: x196 :: x197 :: x198 :: x199 :: x200 :: x201 :: x202 :: x203 :: x204 :: x205 :: x206 :: x207 :: x208 :: x209 :: x210 :: x211 :: x212 :: x213 :: x214 :: x215 :: x216 :: x217 :: x218 :: x219 :: x220 :: x221 :: x222 :: x223 :: x224 :: x225 :: x226 :: x227 :: x228 :: x229 :: x230 :: x231 :: x232 :: x233 :: ([] : List Value)), []⟩ w := by
  conv => arg 2; arg 1; whnf
  obtain ⟨aw, bw, ow, cw, rfl, hmw, haw, hcw⟩ := hv
  rw [fl_length] at hmw haw
  simp only [fl_length] at hcw hQ
  rw [fl_length]
  have HD : Hid _ := hd
  have HS : Hid _ := hs
  have HR : Hid _ := hr
  have HCG : Hid _ := hcg
  have HW : Hid _ := hw
  have hcl : c.length ≤ d.length := by
    have := length_le_of_nodup (hs.nd g c hcg) (m := List.range d.length) (fun v hv => List.mem_range.2 (hs.lt g c hcg v hv))
    simpa using this
  have hfc := hb.mks.sub f hb.has
  have hfn : f < d.length := hs.lt g c hcg f hfc
  obtain ⟨hpw, hbw⟩ := haw (by omega)
  cases hpw
  clear hs hr hcg hw haw hd
  go_loopw [14, 18] (fun qv hv w => FwdRel B d w4 so c (g + 1) f qv hv w) (fun _ hv _ => d.length - (intOf hv).toNat)
  case atStart => exact ⟨0, gq, cap, [f], sf, by simp, rfl, rfl, hb, Cl.start _ _ _⟩
  case round =>
    clear hb
    obtain ⟨h, gq1, cap1, q, sf1, hh, rfl, rfl, hb, hcl1⟩ := hrel
    have hqc := length_le_of_nodup hb.mks.nd hb.mks.sub
    by_cases hlt : h < q.length
    · obtain ⟨x, hx⟩ : ∃ x, nd0 q h = x := ⟨_, rfl⟩
      have hxc : x ∈ c := by rw [← hx]; exact hb.mks.sub _ (nd0_mem hlt)
      have hxn : x < d.length := HS.out.lt g c HCG.out x hxc
      have hqh : wr.cell? ⟨gq1, h, none⟩ = some (.int .i64 (x : Int)) := by
        rw [hb.row.cell (by omega), ints_get (by rw [ns_length]; exact hlt), at0_nd0 hlt, hx]
      obtain ⟨a, b, off, cap0, vs, hva, hmax, ha, hc⟩ := HD.out
      obtain ⟨hp, hbB⟩ := ha (by omega)
      obtain ⟨hcv, a1, b1, off1, cap2, hv1, hm1, ha1, hc1⟩ := hc x hxn
      have hcell := (hb.blw.cell (p := ⟨b, off + x, none⟩) (by exact hbB)).trans hcv
      rw [hv1] at hcell
      have hrl := row_le HW.out hxn
      cases hva
      cases hp
      have HB0 : Hid _ := hb
      have HCL0 : Hid _ := hcl1
      have HX : Hid _ := hx
      clear ha hcv hc hb hcl1 hx
      go_wp2
      go_loopw [14, 20] (fun qv kv w => FwdIn B d w4 so c (g + 1) f h x qv kv w) (fun _ kv _ => (row0 d x).length - (intOf kv).toNat)
      case atStart => exact ⟨0, gq1, cap1, q, sf1, hlt, HX.out, Nat.zero_le _, rfl, rfl, HB0.out, HCL0.out⟩
      case round =>
        clear HB0 HCL0 HX hqh hcell hqc hlt hh
        obtain ⟨k, gq2, cap2, q, sf2, hh, hx, hk1, rfl, rfl, hb, hcl1⟩ := hrel
        have hqc := length_le_of_nodup hb.mks.nd hb.mks.sub
        have HB : Hid _ := hb
        have HCL : Hid _ := hcl1
        have HX : Hid _ := hx
        clear hb hcl1 hx
        by_cases hlk : k < (row0 d x).length
        · obtain ⟨hp1, hbB1⟩ := ha1 (by omega)
          cases hp1
          have hck := (HB.out.blw.cell (p := ⟨b1, off1 + k, none⟩) (by exact hbB1)).trans (hc1 k hlk)
          have hj := HR.out x hxn k hlk
          obtain ⟨j, HJ⟩ : ∃ j : Nat, at0 (row0 d x) k = (j : Int) := ⟨(at0 (row0 d x) k).toNat, by omega⟩
          rw [HJ] at hck hj
          have hjn : j < d.length := by omega
          have hnx : (grOf d).nx (nd0 q h) k = j := by rw [HX.out]; show (at0 (row0 d x) k).toNat = j; rw [HJ]; simp
          have hwj := (HB.out.blw.cell (p := ⟨bw, ow + j, none⟩) (by exact hbw)).trans (hcw j hjn)
          rw [at0_fl _ hjn] at hwj
          have hsj := HB.out.mrk.cell (j := j) (by rw [HB.out.mks.len]; exact hjn)
          have hsf := HB.out.mrk.frozen j
          have htell := HB.out.mks.tell j hjn
          have hmem := HS.out.mem_iff HCG.out hjn
          have HT : Hid _ := htell
          have HM : Hid _ := hmem
          have HN : Hid _ := hnx
          have j0 : (0 : Int) ≤ (j : Int) := by omega
          have j1 : (j : Int) < (d.length : Int) := by omega
          clear HJ hc1 hcw ha1 hj htell hmem hnx
          by_cases hjg : whr gs j = g
          · by_cases hjq : j ∈ q
            · have t1 : ((whr gs j : Int) == (g : Int)) = true := by simp [hjg]
              have t2 : at0 sf2 j = ((g + 1 : Nat) : Int) := HT.out.2 hjq
              have t3 : (at0 sf2 j != (g : Int) + 1) = false := by rw [t2]; simp
              have HJQ : Hid _ := hjq
              clear t2 hjg hjq
              go_wp2
              go_roundw
              case rel => exact ⟨k + 1, gq2, cap2, q, sf2, hh, HX.out, by omega, by go_num, rfl, HB.out, Cl.step HCL.out (fun _ => by rw [HN.out]; exact HJQ.out)⟩
              case measure => simp [intOf]; omega
            · have t1 : ((whr gs j : Int) == (g : Int)) = true := by simp [hjg]
              have t2 : ¬ at0 sf2 j = ((g + 1 : Nat) : Int) := fun hh' => hjq (HT.out.1 hh')
              have t3 : (at0 sf2 j != (g : Int) + 1) = true := by
                rw [bne_iff_ne]
                exact fun hh' => t2 (by rw [hh']; omega)
              have hjc : j ∈ c := HM.out.2 hjg
              have HJQ : Hid _ := hjq
              have HJC : Hid _ := hjc
              obtain ⟨i3, p1, p2, p3, p4⟩ := info_parts Try.info3
              clear t2 hjg hjq hjc
              go_wp2_with (at_builtin; refine wpList_append_lies _ rfl (.tmp 157) (.tmp 159) 26 rfl (B + 2) 3 i3 (.int .i64 0) 1 8 Try.underlying26 p1 p2 p3 p4 rfl (by omega) (.slice (some ⟨gq2, 0, none⟩) q.length cap2) q.length (ints (ns q)) rfl (((HB.out.row.owns HB.out.low).kept (World.ownsRow.stored HB.out.mrk j _).2 (.inr (by simp [Value.ownBlock]; have := HB.out.low; omega))).alloc _) ⟨wr.heap.size, 0, none⟩ 1 1 [.int .i64 (j : Int)] rfl rfl (news_one (by simp) _ _) (oneCell_int _) (by omega) (by unfold maxLen; omega) (by omega) (by simp; have := HB.out.siz; omega) (wr.heap.size + 1) (by simp) ?_)
              intro g5 cap5 w5 ho5 hg5 hat5 hlt5
              have R := HB.out.push (Nat.le_refl _) (by omega) (by omega) (by omega) hjn HJC.out HJQ.out (z := (g : Int) + 1) (by omega) ho5 hg5
              have R2 := Cl.append HCL.out (j := j) hh
              clear ho5 hg5 HB HCL
              go_wp2
              go_roundw
              case rel =>
                refine ⟨k + 1, g5, cap5, q ++ [j], _, by simp; omega, by rw [nd0_append hh]; exact HX.out, by omega, by go_num, by simp, R, Cl.step R2 (fun _ => ?_)⟩
                rw [nd0_append hh, HN.out]; simp
              case measure => simp [intOf]; omega
          · have t1 : ((whr gs j : Int) == (g : Int)) = false := by
              rw [beq_eq_false_iff_ne]; omega
            have HJG : Hid _ := hjg
            clear hjg
            go_wp2
            go_roundw
            case rel => exact ⟨k + 1, gq2, cap2, q, sf2, hh, HX.out, by omega, by go_num, rfl, HB.out, Cl.step HCL.out (fun hm => absurd (HM.out.1 (by rw [← HN.out]; exact hm)) HJG.out)⟩
            case measure => simp [intOf]; omega
        · have hk' : k = (row0 d x).length := by omega
          subst hk'
          go_wp2
          go_roundw
          case rel =>
            refine ⟨h + 1, gq2, cap2, q, sf2, by omega, by go_num, rfl, HB.out, Cl.next ?_⟩
            have h1 := HCL.out
            have e : (grOf d).deg (nd0 q h) = (row0 d x).length := by rw [HX.out]; rfl
            rw [e]; exact h1
          case measure => simp [intOf]; omega
    · have hh' : h = q.length := by omega
      subst hh'
      have HB0 : Hid _ := hb
      have HCL0 : Hid _ := hcl1
      clear hb hcl1
      go_wp2
      apply hQ
      · exact HB0.out
      · exact HCL0.out

end Go.Proofs.Qxb6603026a
