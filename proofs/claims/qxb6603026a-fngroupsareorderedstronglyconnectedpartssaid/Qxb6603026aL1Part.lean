/-
  FnGroupsAreOrderedStronglyConnectedParts (function 4): one of its loops.
-/
import Derived.Test.Qxb6603026aL1Fwd
import Derived.Test.Qxb6603026aL1Bwd
import Derived.Deep.QuietTactic
import Derived.BigQuiet
import Derived.BigRegion
import Derived.Outline
namespace Go.Proofs.Qxb6603026a
open Go.RowKit
set_option linter.unusedSimpArgs false
set_option linter.unusedVariables false

/-- a search begins: the queue is emptied, its first node put in and marked -/
theorem Bfs.start {B n : Nat} {w4 w w3 : World} {Sm So : Nat} {sf so : List Int} {c : List Nat} {mark f gq gq' cap' : Nat} {z : Int} {ob : Obj}
    (hbl : Below B w4 w) (hsz : B + 2 ≤ w.heap.size) (hm : IRow w Sm n sf) (ho : IRow w So n so) (hl : sf.length = n) (hlow : B + 2 ≤ gq)
    (hr : ∀ v, v < n → 0 ≤ at0 sf v ∧ at0 sf v < (mark : Int)) (hf : f < n) (hc : f ∈ c)
    (h1 : B ≤ Sm) (h2 : Sm < B + 2) (h3 : So < B + 2) (h4 : Sm ≠ So) (hz : z = (mark : Int))
    (how : w3.ownsRow (B + 2) 3 1 (.slice (some ⟨gq', 0, none⟩) (0 + 1) cap') (0 + 1) (ints (ns []) ++ [.int .i64 (f : Int)])) (hg : (w.alloc ob).grownBy w3 (some gq)) :
    Bfs B n w4 Sm So so c mark f gq' cap' [f] (sf.set f (mark : Int)) (w3.setCell ⟨Sm, f, none⟩ (.int .i64 z)) := by
  subst hz
  have hlo := (World.ownsRow.lt how gq' rfl).1
  refine ⟨?_, ?_, ?_, ?_, ?_, hlo, Marks.start hl hr hf hc, by simp⟩
  · exact ((hbl.alloc (by omega) ob).grown hg (by simp; omega) (fun k hk => by cases hk; omega)).setCell h1 _
  · have := hg.size; simp at this ⊢; omega
  · exact ((hm.alloc ob).grown hg (by simp; omega)).set f _
  · exact ((ho.alloc ob).grown hg (by simp; omega)).other (a := ⟨Sm, f, none⟩) h4 _
  · have e : ints (ns [f]) = ints (ns []) ++ [.int .i64 (f : Int)] := by simp [ns, ints]
    show Row _ 3 1 gq' 1 cap' _
    rw [e]; exact (Row.of_owns how).other (a := ⟨Sm, f, none⟩) (by simp; omega) _

/-- between two groups -/
structure Part (B n : Nat) (w4 : World) (g gq cap : Nat) (q : List Nat) (sf sb : List Int) (w : World) : Prop where
  blw : Below B w4 w
  siz : B + 2 ≤ w.heap.size
  fwd : IRow w B n sf
  bwd : IRow w (B + 1) n sb
  row : Row w 3 1 gq q.length cap (ints (ns q))
  low : B + 2 ≤ gq
  lf : sf.length = n
  lb : sb.length = n
  rf : ∀ v, v < n → 0 ≤ at0 sf v ∧ at0 sf v < ((g + 1 : Nat) : Int)
  rb : ∀ v, v < n → 0 ≤ at0 sb v ∧ at0 sb v < ((g + 1 : Nat) : Int)
def PartRel (B : Nat) (d : List (List Int)) (gl : Nat) (w4 : World) (qv gv : Value) (w : World) : Prop :=
  ∃ (g gq cap : Nat) (q : List Nat) (sf sb : List Int), g ≤ gl ∧ gv = .int .i64 (g : Int) ∧ qv = .slice (some ⟨gq, 0, none⟩) q.length cap ∧ Part B d.length w4 g gq cap q sf sb w
theorem grs_le {g : Gr} {gs : List (List Nat)} (h : Scc g gs) : gs.length ≤ g.n := by
  have hne : ∀ i, i < gs.length → ∃ v, v < g.n ∧ whr gs v = i := fun i hi => by
    have hc : gs[i]? = some gs[i] := List.getElem?_eq_getElem hi
    obtain ⟨v, hv⟩ := List.exists_mem_of_ne_nil _ (h.ne i _ hc)
    exact ⟨v, h.lt i _ hc v hv, h.whr_eq hc hv⟩
  have : ∀ i ∈ List.range gs.length, i ∈ (List.range g.n).map (whr gs) := fun i hi => by
    obtain ⟨v, h1, h2⟩ := hne i (List.mem_range.1 hi)
    exact List.mem_map.2 ⟨v, List.mem_range.2 h1, h2⟩
  have := length_le_of_nodup List.nodup_range this
  simpa using this


set_option maxRecDepth 100000 in
set_option maxHeartbeats 2000000 in
theorem partLoop (B : Nat) (w4 w : World) (d : List (List Int)) (gs : List (List Nat)) (ad : Option Addr) (cd : Nat) (ag : Option Addr) (cg : Nat) (sv pv whv : Value) (st pr : List Int) (gq cap : Nat) (sf sb : List Int) {Q : Exit → Act → World → Prop} {x1 x2 x4 x6 x7 x8 x9 x16 x17 x18 x19 x20 x21 x22 x23 x24 x25 x26 x27 x28 x29 x30 x31 x32 x33 x34 x35 x36 x37 x38 x39 x40 x41 x42 x43 x44 x45 x46 x47 x48 x49 x50 x51 x52 x53 x54 x55 x56 x57 x58 x59 x60 x61 x62 x63 x64 x65 x66 x67 x68 x69 x70 x71 x72 x73 x74 x75 x76 x77 x78 x79 x80 x81 x82 x83 x84 x85 x86 x87 x88 x89 x90 x91 x92 x93 x94 x95 x96 x97 x98 x99 x100 x101 x102 x103 x104 x105 x106 x107 x108 x109 x110 x111 x112 x113 x114 x115 x116 x117 x118 x119 x120 x121 x122 x123 x124 x125 x126 x127 x128 x129 x130 x131 x132 x133 x134 x135 x136 x137 x138 x139 x140 x141 x142 x143 x144 x145 x146 x147 x148 x149 x150 x151 x152 x153 x154 x155 x156 x157 x158 x159 x160 x161 x162 x163 x164 x165 x166 x167 x168 x169 x170 x171 x172 x173 x174 x175 x176 x177 x178 x179 x180 x181 x182 x183 x184 x185 x186 x187 x188 x189 x190 x191 x192 x193 x194 x195 x196 x197 x198 x199 x200 x201 x202 x203 x204 x205 x206 x207 x208 x209 x210 x211 x212 x213 x214 x215 x216 x217 x218 x219 x220 x221 x222 x223 x224 x225 x226 x227 x228 x229 x230 x231 x232 x233 : Value}
    (hn : d.length ≤ 65536) (hw : wordsOf d ≤ 131072) (hr : InRange d) (hs : Scc (grOf d) gs) (hd : RowsAt B w4 (.slice ad d.length cd) d) (hg : RowsAt B w4 (.slice ag gs.length cg) (gs.map ns)) (hv : IntsAt B w4 whv (fl d.length (whr gs))) (hsv : IntsAt B w4 sv st) (hpv : IntsAt B w4 pv pr) (hps : PredSpec (grOf d) st pr)
    (hpt : Part B d.length w4 0 gq cap [] sf sb w)
    (hQ : ∀ (y2 y14 y15 y16 y17 y18 y19 y20 y21 y22 y23 y24 y25 y90 y91 y92 y93 y94 y95 y96 y97 y98 y99 y100 y101 y102 y103 y104 y105 y106 y107 y108 y109 y110 y111 y112 y113 y114 y115 y116 y117 y118 y119 y120 y121 y122 y123 y124 y125 y126 y127 y128 y129 y130 y131 y132 y133 y134 y135 y136 y137 y138 y139 y140 y141 y142 y143 y144 y145 y146 y147 y148 y149 y150 y151 y152 y153 y154 y155 y156 y157 y158 y159 y160 y161 y162 y163 y164 y165 y166 y167 y168 y169 y170 y171 y172 y173 y174 y175 y176 y177 y178 y179 y180 y181 y182 y183 y184 y185 y186 y187 y188 y189 y190 y191 y192 y193 y194 y195 y196 y197 y198 y199 y200 y201 y202 y203 y204 y205 y206 y207 y208 y209 y210 y211 y212 y213 y214 y215 y216 y217 y218 y219 y220 y221 y222 y223 y224 y225 y226 y227 y228 y229 y230 y231 y232 y233 : Value) (w1 : World), Below B w4 w1 → Q (.exit 4) ⟨List.toArray (.slice ad d.length cd :: x1 :: y2 :: .slice ag gs.length cg :: x4 :: whv :: x6 :: x7 :: x8 :: x9 :: sv :: pv :: .slice (some ⟨B, 0, none⟩) d.length d.length :: .slice (some ⟨B + 1, 0, none⟩) d.length d.length :: y14 :: y15 :: y16 :: y17 :: y18 :: y19 :: y20 :: y21 :: y22 :: y23 :: y24 :: y25 :: x26 :: x27 :: x28 :: x29 :: x30 :: x31 :: x32 :: x33 :: x34 :: x35 :: x36 :: x37 :: x38 :: x39 :: x40 :: x41 :: x42 :: x43 :: x44 :: x45 :: x46 :: x47 :: x48 :: x49 :: x50 :: x51 :: x52 :: x53 :: x54 :: x55 :: x56 :: x57 :: x58 :: x59 :: x60 :: x61 :: x62 :: x63 :: x64 :: x65 :: x66 :: x67 :: x68 :: x69 :: x70 :: x71 :: x72 :: x73 :: x74 :: x75 :: x76 :: x77 :: x78 :: x79 :: x80 :: x81 :: x82 :: x83 :: x84 :: x85 :: x86 :: x87 :: x88 :: x89 :: y90 :: y91 :: y92 :: y93 :: y94 :: y95 :: y96 :: y97 :: y98 :: y99 :: y100 :: y101 :: y102 :: y103 :: y104 :: y105 :: y106 :: y107 :: y108 :: y109 :: y110 :: y111 :: y112 :: y113 :: y114 :: y115 :: y116 :: y117 :: y118 :: y119 :: y120 :: y121 :: y122 :: y123 :: y124 :: y125 :: y126 :: y127 :: y128 :: y129 :: y130 :: y131 :: y132 :: y133 :: y134 :: y135 :: y136 :: y137 :: y138 :: y139 :: y140 :: y141 :: y142 :: y143 :: y144 :: y145 :: y146 :: y147 :: y148 :: y149 :: y150 :: y151 :: y152 :: y153 :: y154 :: y155 :: y156 :: y157 :: y158 :: y159 :: y160 :: y161 :: y162 :: y163 :: y164 :: y165 :: y166 :: y167 :: y168 :: y169 :: y170 :: y171 :: y172 :: y173 :: y174 :: y175 :: y176 :: y177 :: y178 :: y179 :: y180 :: y181 :: y182 :: y183 :: y184 :: y185 :: y186 :: y187 :: y188 :: y189 :: y190 :: y191 :: y192 :: y193 :: y194 :: y195 :: y196 :: y197 :: y198 :: y199 :: y200 :: y201 :: y202 :: y203 :: y204 :: y205 :: y206 :: y207 :: y208 :: y209 :: y210 :: y211 :: y212 :: y213 :: y214 :: y215 :: y216 :: y217 :: y218 :: y219 :: y220 :: y221 :: y222 :: y223 :: y224 :: y225 :: y226 :: y227 :: y228 :: y229 :: y230 :: y231 :: y232 :: y233 :: ([] : List Value)), []⟩ w1) :
    Code.wp Try.prog (.loop (lp (bodyOf Try.f4) 1)) Q ⟨List.toArray (.slice ad d.length cd :: x1 :: x2 :: .slice ag gs.length cg :: x4 :: whv :: x6 :: x7 :: x8 :: x9 :: sv :: pv :: .slice (some ⟨B, 0, none⟩) d.length d.length :: .slice (some ⟨B + 1, 0, none⟩) d.length d.length :: .slice (some ⟨gq, 0, none⟩) 0 cap :: .int .i64 0 :: x16 :: x17 :: x18 :: x19 :: x20 :: x21 :: x22 :: x23 :: x24 :: x25 :: x26 :: x27 :: x28 :: x29 :: x30 :: x31 :: x32 :: x33 :: x34 :: x35 :: x36 :: x37 :: x38 :: x39 :: x40 :: x41 :: x42 :: x43 :: x44 :: x45 :: x46 :: x47 :: x48 :: x49 :: x50 :: x51 :: x52 :: x53 :: x54 :: x55 :: x56 :: x57 :: x58 :: x59 :: x60 :: x61 :: x62 :: x63 :: x64 :: x65 :: x66 :: x67 :: x68 :: x69 :: x70 :: x71 :: x72 :: x73 :: x74 :: x75 :: x76 :: x77 :: x78 :: x79 :: x80 :: x81 :: x82 :: x83 :: x84 :: x85 :: x86 :: x87 :: x88 :: x89 :: x90 :: x91 :: x92 :: x93 :: x94 :: x95 :: x96 :: x97 :: x98 :: x99 :: x100 :: x101 :: x102 :: x103 :: x104 :: x105 :: x106 :: x107 :: x108 :: x109 :: x110 :: x111 :: x112 :: x113 :: x114 :: x115 :: x116 :: x117 :: x118 :: x119 :: x120 :: x121 :: x122 :: x123 :: x124 :: x125 :: x126 :: x127 :: x128 :: x129 :: x130 :: x131 :: x132 :: x133 :: x134 :: x135 :: x136 :: x137 :: x138 :: x139 :: x140 :: x141 :: x142 :: x143 :: x144 :: x145 :: x146 :: x147 :: x148 :: x149 :: x150 :: x151 :: x152 :: x153 :: x154 :: x155 :: x156 :: x157 :: x158 :: x159 :: x160 :: x161 :: x162 :: x163 :: x164 :: x165 :: x166 :: x167 :: x168 :: x169 :: x170 :: x171 :: x172 :: x173 :: x174 :: x175 :: x176 :: x177 :: x178 :: x179 :: x180 :: x181 :: x182 :: x183 :: x184 :: x185 :: x186 :: x187 :: x188 :: x189 :: x190 :: x191 :: x192 :: x193 :: x194 :: x195 :: x196 :: x197 :: x198 :: x199 :: x200 :: x201 :: x202 :: x203 :: x204 :: x205 :: x206 :: x207 :: x208 :: x209 :: x210 :: x211 :: x212 :: x213 :: x214 :: x215 :: x216 :: x217 :: x218 :: x219 :: x220 :: x221 :: x222 :: x223 :: x224 :: x225 :: x226 :: x227 :: x228 :: x229 :: x230 :: x231 :: x232 :: x233 :: ([] : List Value)), []⟩ w := by
  conv => arg 2; arg 1; whnf
  have hgl := grs_le hs
  have hgl' : gs.length ≤ d.length := hgl
  have HD : Hid _ := hd
  have HG : Hid _ := hg
  have HS : Hid _ := hs
  have HR : Hid _ := hr
  have HW : Hid _ := hw
  have HV : Hid _ := hv
  have HSV : Hid _ := hsv
  have HPV : Hid _ := hpv
  have HPS : Hid _ := hps
  clear hd hg hs hr hw hv hsv hpv hps hgl
  go_loopw [14, 15] (fun qv gv w => PartRel B d gs.length w4 qv gv w) (fun _ gv _ => gs.length - (intOf gv).toNat)
  case atStart => exact ⟨0, gq, cap, [], sf, sb, by simp, rfl, rfl, hpt⟩
  case round =>
    clear hpt
    obtain ⟨g, gq1, cap1, q, sf1, sb1, hg1, rfl, rfl, hpt⟩ := hrel
    have HP : Hid _ := hpt
    have hrc := hpt.row.cap_le
    clear hpt
    by_cases hlt : g < gs.length
    · obtain ⟨c, hcg⟩ : ∃ c, gs[g]? = some c := ⟨_, List.getElem?_eq_getElem hlt⟩
      obtain ⟨f, c', rfl⟩ : ∃ f c', c = f :: c' := by
        cases c with
        | nil => exact absurd rfl (HS.out.ne g _ hcg)
        | cons f c' => exact ⟨f, c', rfl⟩
      have hfn : f < d.length := HS.out.lt g _ hcg f (by simp)
      have hcl : (f :: c').length ≤ d.length := by
        have := length_le_of_nodup (HS.out.nd g _ hcg) (m := List.range d.length) (fun v hv => List.mem_range.2 (HS.out.lt g _ hcg v hv))
        simpa using this
      obtain ⟨a, b, off, cap0, vs, hva, hmax, ha, hc⟩ := HG.out
      rw [List.length_map] at hva hmax ha hc
      obtain ⟨hp, hbB⟩ := ha (by omega)
      obtain ⟨hcv, a1, b1, off1, cap2, hv1, hm1, ha1, hc1⟩ := hc g hlt
      have hrow : row0 (gs.map ns) g = ns (f :: c') := by
        simp [row0, hcg]
      rw [hrow] at hv1 ha1 hc1
      rw [ns_length] at hv1 ha1 hc1
      have hcell := (HP.out.blw.cell (p := ⟨b, off + g, none⟩) (by exact hbB)).trans hcv
      rw [hv1] at hcell
      obtain ⟨hp1, hbB1⟩ := ha1 (by simp)
      have hc10 := hc1 0 (by simp)
      have e0 : at0 (ns (f :: c')) 0 = (f : Int) := by simp [at0, ns]
      rw [e0] at hc10
      have hcell0 := (HP.out.blw.cell (p := ⟨b1, off1 + 0, none⟩) (by exact hbB1)).trans hc10
      rw [Nat.add_zero] at hcell0
      cases hva
      subst hp
      subst hp1
      clear hc ha hc1 ha1 hmax hm1 hv1 hcv hc10 e0 hrow
      obtain ⟨i3, p1, p2, p3, p4⟩ := info_parts Try.info3
      have HCG : Hid _ := hcg
      clear hcg
      go_wp2_with (at_builtin; refine wpList_append_lies _ rfl (.tmp 104) (.tmp 108) 26 rfl (B + 2) 3 i3 (.int .i64 0) 1 8 Try.underlying26 p1 p2 p3 p4 rfl (by omega) (.slice (some ⟨gq1, 0, none⟩) 0 cap1) 0 (ints (ns [])) rfl (((HP.out.row.take (m := 0) (Nat.zero_le _)).owns HP.out.low).alloc _) ⟨wr.heap.size, 0, none⟩ 1 1 [.int .i64 (f : Int)] rfl rfl (news_one (by simp) _ _) (oneCell_int _) (by omega) (by unfold maxLen; omega) (by omega) (by simp; have := HP.out.siz; omega) (wr.heap.size + 1) (by simp) ?_)
      intro g5 cap5 w5 ho5 hg5 hat5 hlt5
      have hne5 : B ≤ wr.heap.size := by have := HP.out.siz; omega
      have B5 : Below B w4 w5 := (HP.out.blw.alloc hne5 _).grown hg5 (by simp; omega) (fun k hk => by have e' : some gq1 = some k := hk; have := HP.out.low; injection e' with e'; omega)
      have hcell5 := (B5.cell (p := ⟨b1, off1, none⟩) (by exact hbB1)).trans ((HP.out.blw.cell (p := ⟨b1, off1, none⟩) (by exact hbB1)).symm.trans hcell0)
      have M5 : IRow w5 B d.length sf1 := (HP.out.fwd.alloc _).grown hg5 (fun e => by have e' : some B = some gq1 := e; have := HP.out.low; injection e' with e'; omega)
      have hsj := M5.cell (j := f) (by rw [HP.out.lf]; exact hfn)
      have hsf := M5.frozen f
      have j0 : (0 : Int) ≤ (f : Int) := by omega
      have j1 : (f : Int) < (d.length : Int) := by omega
      have R := Bfs.start (z := (g : Int) + 1) (mark := g + 1) HP.out.blw HP.out.siz HP.out.fwd HP.out.bwd HP.out.lf HP.out.low HP.out.rf hfn (c := f :: c') (by simp) (Nat.le_refl _) (by omega) (by omega) (by omega) (by omega) ho5 hg5
      have HO5 : Hid _ := R
      clear R ho5 hg5 hat5 hlt5 M5 B5
      go_wp2_with fail
      refine fwdLoop B w4 _ d gs ad cd whv g (f :: c') f g5 cap5 _ sb1 hn HW.out HR.out HS.out HCG.out (by omega) HD.out HV.out HO5.out ?_
      intros
      rename_i gq6 cap6 q6 sf6 w6 hb6 hcl6
      have hfull := fwd_full HS.out (grOf_ok HR.out) HCG.out hb6.mks hb6.has hcl6
      have hfull' : q6.length = c'.length + 1 := by rw [hfull]; rfl
      have t1 : ((q6.length : Int) != ((c'.length + 1 : Nat) : Int)) = false := by rw [hfull']; simp
      have H6 : Hid _ := hb6
      have hrc6 := hb6.row.cap_le
      have hcell6 := (hb6.blw.cell (p := ⟨b1, off1, none⟩) (by exact hbB1)).trans ((HP.out.blw.cell (p := ⟨b1, off1, none⟩) (by exact hbB1)).symm.trans hcell0)
      clear hb6 hcl6 hcell0 hcell5 hsj hsf hcell HO5 hfull
      go_wp2_with (at_builtin; refine wpList_append_lies _ rfl (.tmp 168) (.tmp 172) 26 rfl (B + 2) 3 i3 (.int .i64 0) 1 8 Try.underlying26 p1 p2 p3 p4 rfl (by omega) (.slice (some ⟨gq6, 0, none⟩) 0 cap6) 0 (ints (ns [])) rfl (((H6.out.row.take (m := 0) (Nat.zero_le _)).owns H6.out.low).alloc _) ⟨w6.heap.size, 0, none⟩ 1 1 [.int .i64 (f : Int)] rfl rfl (news_one (by simp) _ _) (oneCell_int _) (by omega) (by unfold maxLen; omega) (by omega) (by simp; have := H6.out.siz; omega) (w6.heap.size + 1) (by simp) ?_)
      intro g7 cap7 w7 ho7 hg7 hat7 hlt7
      have hne7 : B ≤ w6.heap.size := by have := H6.out.siz; omega
      have B7 : Below B w4 w7 := (H6.out.blw.alloc hne7 _).grown hg7 (by simp; omega) (fun k hk => by have e' : some gq6 = some k := hk; have := H6.out.low; injection e' with e'; omega)
      have hcell7 := (B7.cell (p := ⟨b1, off1, none⟩) (by exact hbB1)).trans ((H6.out.blw.cell (p := ⟨b1, off1, none⟩) (by exact hbB1)).symm.trans hcell6)
      have M7 : IRow w7 (B + 1) d.length sb1 := (H6.out.oth.alloc _).grown hg7 (fun e => by have e' : some (B + 1) = some gq6 := e; have := H6.out.low; injection e' with e'; omega)
      have hsj7 := M7.cell (j := f) (by rw [HP.out.lb]; exact hfn)
      have hsf7 := M7.frozen f
      have R := Bfs.start (z := (g : Int) + 1) (mark := g + 1) H6.out.blw H6.out.siz H6.out.oth H6.out.mrk HP.out.lb H6.out.low HP.out.rb hfn (c := f :: c') (by simp) (by omega) (by omega) (by omega) (by omega) (by omega) ho7 hg7
      have HO7 : Hid _ := R
      clear R ho7 hg7 hat7 hlt7 M7 B7
      go_wp2_with fail
      refine bwdLoop B w4 _ d gs sv pv whv st pr g (f :: c') f g7 cap7 _ sf6 hn HW.out HS.out HCG.out (by omega) HSV.out HPV.out HPS.out HV.out HO7.out ?_
      intros
      rename_i gq8 cap8 q8 sf8 w8 hb8 hcl8
      have hfull8 := bwd_full HS.out (grOf_ok HR.out) HPS.out HCG.out hb8.mks hb8.has hcl8
      have hfull9 : q8.length = c'.length + 1 := by rw [hfull8]; rfl
      have t2 : ((q8.length : Int) != ((c'.length + 1 : Nat) : Int)) = false := by rw [hfull9]; simp
      have H8 : Hid _ := hb8
      clear hb8 hcl8 hsj7 hsf7 hcell7 hcell6 t1
      go_wp2
      go_roundw
      case rel =>
        refine ⟨g + 1, gq8, cap8, q8, sf6, sf8, by omega, by go_num, rfl, ⟨H8.out.blw, H8.out.siz, H8.out.oth, H8.out.mrk, H8.out.row, H8.out.low, H6.out.mks.len, H8.out.mks.len, fun v hv => ?_, fun v hv => ?_⟩⟩
        · have := H6.out.mks.rng v hv; omega
        · have := H8.out.mks.rng v hv; omega
      case measure => simp [intOf]; omega
    · have hh' : g = gs.length := by omega
      subst hh'
      go_wp2
      exact HP.out.blw

end Go.Proofs.Qxb6603026a
