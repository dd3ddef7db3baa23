/-
  FnGroupsMatchKosarajuModel (function 3): one of its loops.
-/
import Derived.Test.Qxb6603026aKosVisit
import Derived.Test.Qxb6603026aKosPure
import Derived.Test.Qxb6603026aPred
import Derived.Test.Qxb6603026aGRel
import Derived.Deep.QuietTactic
import Derived.BigQuiet
import Derived.BigRegion
import Derived.Outline
namespace Go.Proofs.Qxb6603026a
open Go.RowKit
set_option linter.unusedSimpArgs false
set_option linter.unusedVariables false

/-- a component's search: the queue, the components so far -/
structure KB (B n : Nat) (w4 : World) (gs : List (List Nat)) (i : Nat) (c : List Nat) (f gq cap : Nat) (q : List Nat) (w : World) : Prop where
  blw : Below B w4 w
  siz : B + 1 ≤ w.heap.size
  mrk : IRow w B n (fz n (compQ gs (i + 1) q))
  row : Row w 3 1 gq q.length cap (ints (ns q))
  low : B + 1 ≤ gq
  nd : q.Nodup
  sub : ∀ x ∈ q, x ∈ c
  has : f ∈ q

theorem KB.push {B n : Nat} {w4 w w3 : World} {gs : List (List Nat)} {i : Nat} {c : List Nat} {f gq cap gq' cap' : Nat} {q : List Nat} {j : Nat} {z : Int} {ob : Obj} (h : KB B n w4 gs i c f gq cap q w)
    (hjc : j ∈ c) (hjq : j ∉ q) (hz : z = ((gs.length - (i + 1) : Nat) : Int))
    (ho : w3.ownsRow (B + 1) 3 1 (.slice (some ⟨gq', 0, none⟩) (q.length + 1) cap') (q.length + 1) (ints (ns q) ++ [.int .i64 (j : Int)])) (hg : ((w.setCell ⟨B, j, none⟩ (.int .i64 z)).alloc ob).grownBy w3 (some gq)) :
    KB B n w4 gs i c f gq' cap' (q ++ [j]) w3 := by
  have hl := h.low
  have hs := h.siz
  refine ⟨?_, ?_, ?_, ?_, ?_, ?_, ?_, by simp [h.has]⟩
  · exact ((h.blw.setCell (Nat.le_refl _) _).alloc (by simp; omega) ob).grown hg (by simp; omega) (fun k hk => by cases hk; omega)
  · have := hg.size; simp at this; omega
  · have := ((h.mrk.set j z).alloc ob).grown hg (by simp; omega)
    rwa [comp_add hz] at this
  · have e : ints (ns (q ++ [j])) = ints (ns q) ++ [.int .i64 (j : Int)] := by simp [ns, ints]
    have hl' : (q ++ [j]).length = q.length + 1 := by simp
    rw [e, hl']; exact Row.of_owns ho
  · exact (World.ownsRow.lt ho gq' rfl).1
  · rw [List.nodup_append]
    refine ⟨h.nd, by simp, fun a ha b hb => ?_⟩
    simp at hb; subst hb; exact fun e => hjq (e ▸ ha)
  · intro x hx
    rcases List.mem_append.1 hx with hx | hx
    · exact h.sub x hx
    · simp at hx; subst hx; exact hjc

def KBRel (B : Nat) (d : List (List Int)) (pr : List Int) (w4 : World) (gs : List (List Nat)) (i : Nat) (c : List Nat) (f : Nat) (qv hv : Value) (w : World) : Prop :=
  ∃ (h gq cap : Nat) (q : List Nat), h ≤ q.length ∧ hv = .int .i64 (h : Int) ∧ qv = .slice (some ⟨gq, 0, none⟩) q.length cap ∧ KB B d.length w4 gs i c f gq cap q w ∧ Cl (revGr (grOf d) pr) c q h 0
def KBIn (B : Nat) (d : List (List Int)) (pr : List Int) (w4 : World) (gs : List (List Nat)) (i : Nat) (c : List Nat) (f h x : Nat) (qv kv : Value) (w : World) : Prop :=
  ∃ (k gq cap : Nat) (q : List Nat), h < q.length ∧ nd0 q h = x ∧ k ≤ (revGr (grOf d) pr).deg x ∧ kv = .int .i64 ((below (edgesTo (grOf d) (grOf d).n) x + k : Nat) : Int) ∧ qv = .slice (some ⟨gq, 0, none⟩) q.length cap ∧ KB B d.length w4 gs i c f gq cap q w ∧ Cl (revGr (grOf d) pr) c q h k

set_option maxRecDepth 100000 in
set_option maxHeartbeats 2000000 in
theorem kosBfs (B : Nat) (w4 w : World) (d : List (List Int)) (gs : List (List Nat)) (sv pv : Value) (st pr : List Int) (i : Nat) (c : List Nat) (f gq cap : Nat) {Q : Exit → Act → World → Prop} {x0 x1 x2 x3 x4 x5 x6 x7 x8 x9 x13 x16 x17 x19 x20 x21 x22 x23 x24 x25 x26 x27 x28 x29 x30 x31 x32 x33 x34 x35 x36 x37 x38 x39 x40 x41 x42 x43 x44 x45 x46 x47 x48 x49 x50 x51 x52 x53 x54 x55 x56 x57 x58 x59 x60 x61 x62 x63 x64 x65 x66 x67 x68 x69 x70 x71 x72 x73 x74 x75 x76 x77 x78 x79 x80 x81 x82 x83 x84 x85 x86 x87 x88 x89 x90 x91 x92 x93 x94 x95 x96 x97 x98 x99 x100 x101 x102 x103 x104 x105 x106 x107 x108 x109 x110 x111 x112 x113 x114 x115 x116 x117 x118 x119 x120 x121 x122 x123 x124 x125 x126 x127 x128 x129 x130 x131 x132 x133 x134 x135 x136 x137 x138 x139 x140 x141 x142 x143 x144 x145 x146 x147 x148 x149 x150 x151 x152 x153 x154 x155 x156 x157 x158 x159 x160 x161 x162 x163 x164 x165 x166 x167 x168 x169 x170 x171 x172 x173 x174 x175 x176 x177 x178 x179 x180 x181 x182 x183 x184 x185 x186 x187 x188 x189 x190 x191 x192 x193 x194 x195 x196 x197 x198 x199 x200 x201 x202 x203 x204 x205 x206 x207 x208 x209 x210 x211 x212 x213 x214 x215 x216 x217 x218 x219 x220 x221 x222 x223 x224 x225 x226 x227 x228 x229 x230 x231 x232 x233 x234 x235 x236 x237 x238 x239 x240 x241 x242 x243 x244 x245 x246 x247 x248 x249 x250 x251 x252 x253 x254 x255 x256 x257 x258 x259 x260 x261 x262 x263 x264 x265 x266 x267 x268 x269 x270 x271 x272 x273 x274 x275 x276 x277 x278 x279 x280 x281 x282 x283 x284 x285 x286 x287 x288 x289 x290 x291 x292 x293 x294 x295 x296 x297 x298 x299 x300 x301 x302 x303 x304 x305 x306 x307 x308 x309 x310 : Value}
    (hn : d.length ≤ 65536) (hw : wordsOf d ≤ 131072) (hs : Scc (grOf d) gs) (hcg : gs[i]? = some c) (hsv : IntsAt B w4 sv st) (hpv : IntsAt B w4 pv pr) (hps : PredSpec (grOf d) st pr)
    (hb : KB B d.length w4 gs i c f gq cap [f] w)
    (hQ : ∀ (y18 y19 y20 y21 y141 y142 y143 y144 y145 y146 y147 y148 y149 y150 y151 y152 y153 y154 y155 y156 y157 y158 y159 y160 y161 y162 y163 y164 y165 y166 y167 y168 y169 y170 y171 y172 y173 y174 y175 y176 y177 y178 y179 y180 : Value) (gq1 cap1 : Nat) (q : List Nat) (w1 : World), KB B d.length w4 gs i c f gq1 cap1 q w1 → Cl (revGr (grOf d) pr) c q q.length 0 → Q (.exit 8) ⟨List.toArray (x0 :: x1 :: x2 :: x3 :: x4 :: x5 :: x6 :: x7 :: x8 :: x9 :: sv :: pv :: .slice (some ⟨B, 0, none⟩) d.length d.length :: x13 :: .slice (some ⟨gq1, 0, none⟩) q.length cap1 :: .int .i64 ((gs.length - (i + 1) : Nat) : Int) :: x16 :: x17 :: y18 :: y19 :: y20 :: y21 :: x22 :: x23 :: x24 :: x25 :: x26 :: x27 :: x28 :: x29 :: x30 :: x31 :: x32 :: x33 :: x34 :: x35 :: x36 :: x37 :: x38 :: x39 :: x40 :: x41 :: x42 :: x43 :: x44 :: x45 :: x46 :: x47 :: x48 :: x49 :: x50 :: x51 :: x52 :: x53 :: x54 :: x55 :: x56 :: x57 :: x58 :: x59 :: x60 :: x61 :: x62 :: x63 :: x64 :: x65 :: x66 :: x67 :: x68 :: x69 :: x70 :: x71 :: x72 :: x73 :: x74 :: x75 :: x76 :: x77 :: x78 :: x79 :: x80 :: x81 :: x82 :: x83 :: x84 :: x85 :: x86 :: x87 :: x88 :: x89 :: x90 :: x91 :: x92 :: x93 :: x94 :: x95 :: x96 :: x97 :: x98 :: x99 :: x100 :: x101 :: x102 :: x103 :: x104 :: x105 :: x106 :: x107 :: x108 :: x109 :: x110 :: x111 :: x112 :: x113 :: x114 :: x115 :: x116 :: x117 :: x118 :: x119 :: x120 :: x121 :: x122 :: x123 :: x124 :: x125 :: x126 :: x127 :: x128 :: x129 :: x130 :: x131 :: x132 :: x133 :: x134 :: x135 :: x136 :: x137 :: x138 :: x139 :: x140 :: y141 :: y142 :: y143 :: y144 :: y145 :: y146 :: y147 :: y148 :: y149 :: y150 :: y151 :: y152 :: y153 :: y154 :: y155 :: y156 :: y157 :: y158 :: y159 :: y160 :: y161 :: y162 :: y163 :: y164 :: y165 :: y166 :: y167 :: y168 :: y169 :: y170 :: y171 :: y172 :: y173 :: y174 :: y175 :: y176 :: y177 :: y178 :: y179 :: y180 :: x181 :: x182 :: x183 :: x184 :: x185 :: x186 :: x187 :: x188 :: x189 :: x190 :: x191 :: x192 :: x193 :: x194 :: x195 :: x196 :: x197 :: x198 :: x199 :: x200 :: x201 :: x202 :: x203 :: x204 :: x205 :: x206 :: x207 :: x208 :: x209 :: x210 :: x211 :: x212 :: x213 :: x214 :: x215 :: x216 :: x217 :: x218 :: x219 :: x220 :: x221 :: x222 :: x223 :: x224 :: x225 :: x226 :: x227 :: x228 :: x229 :: x230 :: x231 :: x232 :: x233 :: x234 :: x235 :: x236 :: x237 :: x238 :: x239 :: x240 :: x241 :: x242 :: x243 :: x244 :: x245 :: x246 :: x247 :: x248 :: x249 :: x250 :: x251 :: x252 :: x253 :: x254 :: x255 :: x256 :: x257 :: x258 :: x259 :: x260 :: x261 :: x262 :: x263 :: x264 :: x265 :: x266 :: x267 :: x268 :: x269 :: x270 :: x271 :: x272 :: x273 :: x274 :: x275 :: x276 :: x277 :: x278 :: x279 :: x280 :: x281 :: x282 :: x283 :: x284 :: x285 :: x286 :: x287 :: x288 :: x289 :: x290 :: x291 :: x292 :: x293 :: x294 :: x295 :: x296 :: x297 :: x298 :: x299 :: x300 :: x301 :: x302 :: x303 :: x304 :: x305 :: x306 :: x307 :: x308 :: x309 :: x310 :: ([] : List Value)), []⟩ w1) :
    Code.wp Try.prog (.loop (lp (lp (bodyOf Try.f3) 3) 0)) Q ⟨List.toArray (x0 :: x1 :: x2 :: x3 :: x4 :: x5 :: x6 :: x7 :: x8 :: x9 :: sv :: pv :: .slice (some ⟨B, 0, none⟩) d.length d.length :: x13 :: .slice (some ⟨gq, 0, none⟩) 1 cap :: .int .i64 ((gs.length - (i + 1) : Nat) : Int) :: x16 :: x17 :: .int .i64 0 :: x19 :: x20 :: x21 :: x22 :: x23 :: x24 :: x25 :: x26 :: x27 :: x28 :: x29 :: x30 :: x31 :: x32 :: x33 :: x34 :: x35 :: x36 :: x37 :: x38 :: x39 :: x40 :: x41 :: x42 :: x43 :: x44 :: x45 :: x46 :: x47 :: x48 :: x49 :: x50 :: x51 :: x52 :: x53 :: x54 :: x55 :: x56 :: x57 :: x58 :: x59 :: x60 :: x61 :: x62 :: x63 :: x64 :: x65 :: x66 :: x67 :: x68 :: x69 :: x70 :: x71 :: x72 :: x73 :: x74 :: x75 :: x76 :: x77 :: x78 :: x79 :: x80 :: x81 :: x82 :: x83 :: x84 :: x85 :: x86 :: x87 :: x88 :: x89 :: x90 :: x91 :: x92 :: x93 :: x94 :: x95 :: x96 :: x97 :: x98 :: x99 :: x100 :: x101 :: x102 :: x103 :: x104 :: x105 :: x106 :: x107 :: x108 :: x109 :: x110 :: x111 :: x112 :: x113 :: x114 :: x115 :: x116 :: x117 :: x118 :: x119 :: x120 :: x121 :: x122 :: x123 :: x124 :: x125 :: x126 :: x127 :: x128 :: x129 :: x130 :: x131 :: x132 :: x133 :: x134 :: x135 :: x136 :: x137 :: x138 :: x139 :: x140 :: x141 :: x142 :: x143 :: x144 :: x145 :: x146 :: x147 :: x148 :: x149 :: x150 :: x151 :: x152 :: x153 :: x154 :: x155 :: x156 :: x157 :: x158 :: x159 :: x160 :: x161 :: x162 :: x163 :: x164 :: x165 :: x166 :: x167 :: x168 :: x169 :: x170 :: x171 :: x172 :: x173 :: x174 :: x175 :: x176 :: x177 :: x178 :: x179 :: x180 :: x181 :: x182 :: x183 :: x184 :: x185 :: x186 :: x187 :: x188 :: x189 :: x190 :: x191 :: x192 :: x193 :: x194 :: x195 :: x196 :: x197 :: x198 :: x199 :: x200 :: x201 :: x202 :: x203 :: x204 :: x205 :: x206 :: x207 :: x208 :: x209 :: x210 :: x211 :: x212 :: x213 :: x214 :: x215 :: x216 :: x217 :: x218 :: x219 :: x220 :: x221 :: x222 :: x223 :: x224 :: x225 :: x226 :: x227 :: x228 :: x229 :: x230 :: x231 :: x232 :: x233 :: x234 :: x235 :: x236 :: x237 :: x238 :: x239 :: x240 :: x241 :: x242 :: x243 :: x244 :: x245 :: x246 :: x247 :: x248 :: x249 :: x250 :: x251 :: x252 :: x253 :: x254 :: x255 :: x256 :: x257 :: x258 :: x259 :: x260 :: x261 :: x262 :: x263 :: x264 :: x265 :: x266 :: x267 :: x268 :: x269 :: x270 :: x271 :: x272 :: x273 :: x274 :: x275 :: x276 :: x277 :: x278 :: x279 :: x280 :: x281 :: x282 :: x283 :: x284 :: x285 :: x286 :: x287 :: x288 :: x289 :: x290 :: x291 :: x292 :: x293 :: x294 :: x295 :: x296 :: x297 :: x298 :: x299 :: x300 :: x301 :: x302 :: x303 :: x304 :: x305 :: x306 :: x307 :: x308 :: x309 :: x310 :: ([] : List Value)), []⟩ w := by
  conv => arg 2; arg 1; whnf
  have hst : st = fl (d.length + 1) (below (edgesTo (grOf d) (grOf d).n)) := hps.1
  have hprl : pr.length = below (edgesTo (grOf d) (grOf d).n) d.length := hps.2.1
  obtain ⟨as1, bs, os, cs, rfl, hms, has, hcs⟩ := hsv
  rw [hst, fl_length] at has
  rw [hst] at hcs
  simp only [fl_length] at hcs
  have hstl : st.length = d.length + 1 := by rw [hst, fl_length]
  rw [hstl] at hQ ⊢
  obtain ⟨ap, bp, op, cp, rfl, hmp, hap, hcp⟩ := hpv
  have hEl : (edgesTo (grOf d) (grOf d).n).length ≤ 131072 := by
    have := edgesTo_words d d.length
    unfold wordsOf at hw
    show (edgesTo (grOf d) d.length).length ≤ _
    omega
  have HS : Hid _ := hs
  have HCG : Hid _ := hcg
  have HPS : Hid _ := hps
  have HPL : Hid _ := hprl
  have hcl : c.length ≤ d.length := by
    have := length_le_of_nodup (hs.nd i c hcg) (m := List.range d.length) (fun v hv => List.mem_range.2 (hs.lt i c hcg v hv))
    simpa using this
  have hfc := hb.sub f hb.has
  have hfn : f < d.length := hs.lt i c hcg f hfc
  obtain ⟨hps', hbs⟩ := has (by omega)
  cases hps'
  obtain ⟨ct, hct⟩ : ∃ ct, ct = gs.length - (i + 1) := ⟨_, rfl⟩
  have HCT : Hid _ := hct
  rw [← hct] at hQ ⊢
  clear hs hcg hw has hps hst hprl hstl hms hct
  go_loopw [14, 18] (fun qv hv w => KBRel B d pr w4 gs i c f qv hv w) (fun _ hv _ => d.length - (intOf hv).toNat)
  case atStart => exact ⟨0, gq, cap, [f], by simp, rfl, rfl, hb, Cl.start _ _ _⟩
  case round =>
    clear hb
    obtain ⟨h, gq1, cap1, q, hh, rfl, rfl, hb, hcl1⟩ := hrel
    have hqc := length_le_of_nodup hb.nd hb.sub
    by_cases hlt : h < q.length
    · obtain ⟨x, hx⟩ : ∃ x, nd0 q h = x := ⟨_, rfl⟩
      have hxc : x ∈ c := by rw [← hx]; exact hb.sub _ (nd0_mem hlt)
      have hxn : x < d.length := HS.out.lt i c HCG.out x hxc
      have hqh : wr.cell? ⟨gq1, h, none⟩ = some (.int .i64 (x : Int)) := by
        rw [hb.row.cell (by omega), ints_get (by rw [ns_length]; exact hlt), at0_nd0 hlt, hx]
      have hs0 := hcs x (by omega)
      rw [at0_fl _ (by omega)] at hs0
      have hs1 := hcs (x + 1) (by omega)
      rw [at0_fl _ (by omega)] at hs1
      have hcell := (hb.blw.cell (p := ⟨bs, os + x, none⟩) (by exact hbs)).trans hs0
      have hbe1 := below_le (edgesTo (grOf d) (grOf d).n) (x + 1)
      have hbe2 := below_mono (edgesTo (grOf d) (grOf d).n) (u := x + 1) (v := d.length) (by omega)
      have hbe0 := below_mono (edgesTo (grOf d) (grOf d).n) (u := x) (v := x + 1) (by omega)
      obtain ⟨b0, HB0'⟩ : ∃ b0, b0 = below (edgesTo (grOf d) (grOf d).n) x := ⟨_, rfl⟩
      obtain ⟨b1, HB1'⟩ : ∃ b1, b1 = below (edgesTo (grOf d) (grOf d).n) (x + 1) := ⟨_, rfl⟩
      rw [← HB0'] at hcell hbe0 hs0
      rw [← HB1'] at hs1 hbe1 hbe2 hbe0
      have HBX : Hid (b0 = below (edgesTo (grOf d) (grOf d).n) x) := HB0'
      have HBY : Hid (b1 = below (edgesTo (grOf d) (grOf d).n) (x + 1)) := HB1'
      have hdeg : (revGr (grOf d) pr).deg x = b1 - b0 := by rw [HB0', HB1']; rfl
      have HDG : Hid _ := hdeg
      have HB0 : Hid _ := hb
      have HCL0 : Hid _ := hcl1
      have HX : Hid _ := hx
      have x0' : (0 : Int) ≤ (x : Int) := by omega
      have x1' : (x : Int) < (d.length : Int) := by omega
      clear hs0 hb hcl1 hx HB0' HB1' hdeg hcs
      go_wp2
      go_loopw [14, 20] (fun qv kv w => KBIn B d pr w4 gs i c f h x qv kv w) (fun _ kv _ => b1 - (intOf kv).toNat)
      case atStart => exact ⟨0, gq1, cap1, q, hlt, HX.out, Nat.zero_le _, by rw [← HBX.out]; rfl, rfl, HB0.out, HCL0.out⟩
      case round =>
        clear HB0 HCL0 HX hqh hcell hqc hlt hh
        obtain ⟨k, gq2, cap2, q, hh, hx, hk1, rfl, rfl, hb, hcl1⟩ := hrel
        rw [HDG.out] at hk1
        rw [← HBX.out]
        have hqc := length_le_of_nodup hb.nd hb.sub
        have HB : Hid _ := hb
        have HCL : Hid _ := hcl1
        have HX : Hid _ := hx
        have hc1 := (hb.blw.cell (p := ⟨bs, os + (x + 1), none⟩) (by exact hbs)).trans hs1
        clear hb hcl1 hx
        by_cases hlk : k < b1 - b0
        · obtain ⟨hp1, hbB1⟩ := hap (by rw [HPL.out]; omega)
          cases hp1
          obtain ⟨j, hj1, hj2, hj3, hj4⟩ := PredSpec.rev_ok (v := x) (k := k) HPS.out hxn (by rw [HDG.out]; exact hlk)
          rw [← HBX.out] at hj1
          have hck := (HB.out.blw.cell (p := ⟨bp, op + (b0 + k), none⟩) (by exact hbB1)).trans (hcp (b0 + k) (by rw [HPL.out]; omega))
          rw [hj1] at hck
          have hjn : j < d.length := hj2
          have hnx : (revGr (grOf d) pr).nx (nd0 q h) k = j := by rw [HX.out]; exact hj4
          have hsj := HB.out.mrk.cell (j := j) (by rw [fz_length]; exact hjn)
          rw [at0_fz _ hjn] at hsj
          have hsf := HB.out.mrk.frozen j
          have htell := compQ_neg (q := q) HS.out HCG.out hj2 hxc hj3
          have HT : Hid _ := htell
          have HN : Hid _ := hnx
          have j0 : (0 : Int) ≤ (j : Int) := by omega
          have j1 : (j : Int) < (d.length : Int) := by omega
          have hprl : b0 + k < pr.length := by rw [HPL.out]; omega
          have hprl' : pr.length ≤ 131072 := by rw [HPL.out]; have := below_le (edgesTo (grOf d) (grOf d).n) d.length; omega
          obtain ⟨y, hy⟩ : ∃ y, y = b0 + k := ⟨_, rfl⟩
          rw [← hy] at hck hprl ⊢
          have hyb : y < b1 := by omega
          have HY : Hid _ := hy
          obtain ⟨cz, hcz⟩ : ∃ cz, cz = compQ gs (i + 1) q j := ⟨_, rfl⟩
          rw [← hcz] at hsj
          have HCZ : Hid _ := hcz
          clear hcp hap htell hnx hj1 hj2 hj3 hj4 hy hcz
          by_cases hneg : cz < 0
          · have hboth := HT.out.1 (by rw [← HCZ.out]; exact hneg)
            have HJQ : Hid _ := hboth.1
            have HJC : Hid _ := hboth.2
            obtain ⟨i3, p1, p2, p3, p4⟩ := info_parts Try.info3
            clear hboth
            go_wp2_with (at_builtin; refine wpList_append_lies _ rfl (.tmp 177) (.tmp 179) 26 rfl (B + 1) 3 i3 (.int .i64 0) 1 8 Try.underlying26 p1 p2 p3 p4 rfl (by omega) (.slice (some ⟨gq2, 0, none⟩) q.length cap2) q.length (ints (ns q)) rfl (((HB.out.row.owns HB.out.low).kept (World.ownsRow.stored HB.out.mrk j _).2 (.inr (by simp [Value.ownBlock]; have := HB.out.low; omega))).alloc _) ⟨wr.heap.size, 0, none⟩ 1 1 [.int .i64 (j : Int)] rfl rfl (news_one (by simp) _ _) (oneCell_int _) (by omega) (by unfold maxLen; omega) (by omega) (by simp; have := HB.out.siz; omega) (wr.heap.size + 1) (by simp) ?_)
            intro g5 cap5 w5 ho5 hg5 hat5 hlt5
            have R := HB.out.push HJC.out HJQ.out (z := (ct : Int)) (by rw [HCT.out]) ho5 hg5
            have R2 := Cl.append HCL.out (j := j) hh
            clear ho5 hg5 HB HCL
            go_wp2
            go_roundw
            case rel =>
              refine ⟨k + 1, g5, cap5, q ++ [j], by simp; omega, by rw [nd0_append hh]; exact HX.out, by rw [HDG.out]; omega, ?_, by simp, R, Cl.step R2 (fun _ => ?_)⟩
              · rw [← HBX.out, HY.out]; go_num
              · rw [nd0_append hh, HN.out]; simp
            case measure => simp [intOf]; omega
          · have hold : j ∈ c → j ∈ q := fun hjc => Classical.byContradiction fun hjq => hneg (by rw [HCZ.out]; exact HT.out.2 ⟨hjq, hjc⟩)
            have HO : Hid _ := hold
            clear hold
            go_wp2
            go_roundw
            case rel =>
              refine ⟨k + 1, gq2, cap2, q, hh, HX.out, by rw [HDG.out]; omega, ?_, rfl, HB.out, Cl.step HCL.out (fun hm => by rw [HN.out] at hm ⊢; exact HO.out hm)⟩
              rw [← HBX.out, HY.out]; go_num
            case measure => simp [intOf]; omega
        · have hk' : b0 + k = b1 := by omega
          have HK2 : Hid (k = b1 - b0) := by show k = b1 - b0; omega
          rw [hk']
          clear hlk
          go_wp2
          go_roundw
          case rel =>
            refine ⟨h + 1, gq2, cap2, q, by omega, by go_num, rfl, HB.out, Cl.next ?_⟩
            have h1 := HCL.out
            rw [HK2.out, ← HDG.out] at h1
            rw [HX.out]; exact h1
          case measure => simp [intOf]; omega
    · have hh' : h = q.length := by omega
      subst hh'
      have HB0 : Hid _ := hb
      have HCL0 : Hid _ := hcl1
      clear hb hcl1
      go_wp2
      apply hQ
      · exact HB0.out
      · exact HCL0.out

end Go.Proofs.Qxb6603026a
