/-
  FnGroupsMatchKosarajuModel (function 3): one of its loops.
-/
import Derived.Test.Qxb6603026aSame
import Derived.Test.Qxb6603026aKLay
import Derived.Test.Qxb6603026aKosVisit
import Derived.Test.Qxb6603026aKosPure
import Derived.Test.Qxb6603026aPred
import Derived.Test.Qxb6603026aGRel
import Derived.Deep.QuietTactic
import Derived.BigQuiet
import Derived.BigRegion
import Derived.Outline
namespace Go.Proofs.Qxb6603026a
open Go.RowKit
set_option linter.unusedSimpArgs false
set_option linter.unusedVariables false

theorem same_quiet (S S' : Nat → Prop) (w : World) (q n : Nat) (v v' : Value) (l : List Int) (h : IntsIn S w v l) (h' : IntsIn S' w v' l) (hl : l.length ≤ 131072) :
    Calls Try.prog 16 #[v, v'] (w.drewN (q + n)) fun e w'' => e = .returned (.bool true) ∧ ∃ k, w'' = w.drewN (q + k) :=
  (same_any S S' (w.drewN (q + n)) v v' l (h.same (fun _ _ => rfl)) (h'.same (fun _ _ => rfl)) hl).mono fun e w'' ⟨he, k, hk⟩ => ⟨he, n + k, by rw [hk, World.drewN_drewN, Nat.add_assoc]⟩

set_option maxRecDepth 100000 in
set_option maxHeartbeats 2000000 in
theorem cmpLoop (B b8 bc bo bm : Nat) (w : World) (d : List (List Int)) (gs : List (List Nat)) (pre fin : List Nat) (ag : Option Addr) (cg : Nat) (pr : List Int) {Q : Exit → Act → World → Prop} {x0 x1 x2 x5 x6 x7 x9 x10 x11 x13 x14 x15 x16 x17 x18 x19 x20 x21 x23 x24 x25 x26 x28 x29 x30 x33 x34 x35 x36 x37 x38 x39 x40 x41 x42 x43 x44 x45 x46 x47 x48 x49 x50 x51 x52 x53 x54 x55 x56 x57 x58 x59 x60 x61 x62 x63 x64 x65 x66 x67 x68 x69 x70 x71 x72 x73 x74 x75 x76 x77 x78 x79 x80 x81 x82 x83 x84 x85 x86 x87 x88 x89 x90 x91 x92 x93 x94 x95 x96 x97 x98 x99 x100 x101 x102 x103 x104 x105 x106 x107 x108 x109 x110 x111 x112 x113 x114 x115 x116 x117 x118 x119 x120 x121 x122 x123 x124 x125 x126 x127 x128 x129 x130 x131 x132 x133 x134 x135 x136 x137 x138 x139 x140 x141 x142 x143 x144 x145 x146 x147 x148 x149 x150 x151 x152 x153 x154 x155 x156 x157 x158 x159 x160 x161 x162 x163 x164 x165 x166 x167 x168 x169 x170 x171 x172 x173 x174 x175 x176 x177 x178 x179 x180 x181 x182 x183 x184 x185 x186 x187 x188 x189 x190 x191 x192 x193 x194 x195 x196 x197 x198 x199 x200 x201 x202 x203 x204 x205 x206 x207 x208 x209 x210 x211 x212 x213 x214 x215 x216 x217 x218 x219 x220 x221 x222 x223 x224 x225 x226 x227 x228 x229 x230 x231 x232 x233 x234 x235 x236 x237 x238 x239 x240 x241 x242 x243 x244 x245 x246 x247 x248 x249 x250 x251 x252 x253 x254 x255 x256 x257 x258 x259 x260 x261 x262 x263 x264 x265 x266 x267 x268 x269 x270 x271 x272 x273 x274 x275 x276 x277 x278 x279 x280 x281 x282 x283 x284 x285 x286 x287 x288 x289 x290 x291 x292 x293 x294 x295 x296 x297 x298 x299 x300 x301 x302 x303 x304 x305 x306 x307 x308 x309 x310 : Value}
    (hn : d.length ≤ 65536) (hk : KS (grOf d) gs pre fin) (hgl : gs.length ≤ d.length) (hg : RowsAt B w (.slice ag gs.length cg) (gs.map ns)) (r8 : IRow w b8 d.length (fl d.length (nd0 fin))) (rc : IRow w bc d.length (fl d.length (Kf gs)))
    (ro : IRow w bo (gs.length + 1) (fl (gs.length + 1) (below (EV gs (List.range d.length))))) (rm : IRow w bm d.length pr) (hpl : pr.length = d.length) (hly : LayOk (EV gs (List.range d.length)) (EV gs pre.reverse) gs.length pr)
    (hQ : ∀ (y2 y32 y33 y34 y260 y261 y262 y263 y264 y265 y266 y267 y268 y269 y270 y271 y272 y273 y274 y275 y276 y277 y278 y279 y280 y281 y282 y283 y284 y285 y286 y287 y288 y289 y290 y291 y292 y293 y294 y295 y296 y297 y298 y299 y300 y301 y302 y303 y304 y305 y306 : Value) (q : Nat), Q (.exit 20) ⟨List.toArray (x0 :: x1 :: y2 :: .slice ag gs.length cg :: .int .i64 (d.length : Int) :: x5 :: x6 :: x7 :: .slice (some ⟨b8, 0, none⟩) d.length d.length :: x9 :: x10 :: x11 :: .slice (some ⟨bc, 0, none⟩) d.length d.length :: x13 :: x14 :: x15 :: x16 :: x17 :: x18 :: x19 :: x20 :: x21 :: .slice (some ⟨bo, 0, none⟩) (gs.length + 1) (gs.length + 1) :: x23 :: x24 :: x25 :: x26 :: .slice (some ⟨bm, 0, none⟩) d.length d.length :: x28 :: x29 :: x30 :: .int .i64 (gs.length : Int) :: y32 :: y33 :: y34 :: x35 :: x36 :: x37 :: x38 :: x39 :: x40 :: x41 :: x42 :: x43 :: x44 :: x45 :: x46 :: x47 :: x48 :: x49 :: x50 :: x51 :: x52 :: x53 :: x54 :: x55 :: x56 :: x57 :: x58 :: x59 :: x60 :: x61 :: x62 :: x63 :: x64 :: x65 :: x66 :: x67 :: x68 :: x69 :: x70 :: x71 :: x72 :: x73 :: x74 :: x75 :: x76 :: x77 :: x78 :: x79 :: x80 :: x81 :: x82 :: x83 :: x84 :: x85 :: x86 :: x87 :: x88 :: x89 :: x90 :: x91 :: x92 :: x93 :: x94 :: x95 :: x96 :: x97 :: x98 :: x99 :: x100 :: x101 :: x102 :: x103 :: x104 :: x105 :: x106 :: x107 :: x108 :: x109 :: x110 :: x111 :: x112 :: x113 :: x114 :: x115 :: x116 :: x117 :: x118 :: x119 :: x120 :: x121 :: x122 :: x123 :: x124 :: x125 :: x126 :: x127 :: x128 :: x129 :: x130 :: x131 :: x132 :: x133 :: x134 :: x135 :: x136 :: x137 :: x138 :: x139 :: x140 :: x141 :: x142 :: x143 :: x144 :: x145 :: x146 :: x147 :: x148 :: x149 :: x150 :: x151 :: x152 :: x153 :: x154 :: x155 :: x156 :: x157 :: x158 :: x159 :: x160 :: x161 :: x162 :: x163 :: x164 :: x165 :: x166 :: x167 :: x168 :: x169 :: x170 :: x171 :: x172 :: x173 :: x174 :: x175 :: x176 :: x177 :: x178 :: x179 :: x180 :: x181 :: x182 :: x183 :: x184 :: x185 :: x186 :: x187 :: x188 :: x189 :: x190 :: x191 :: x192 :: x193 :: x194 :: x195 :: x196 :: x197 :: x198 :: x199 :: x200 :: x201 :: x202 :: x203 :: x204 :: x205 :: x206 :: x207 :: x208 :: x209 :: x210 :: x211 :: x212 :: x213 :: x214 :: x215 :: x216 :: x217 :: x218 :: x219 :: x220 :: x221 :: x222 :: x223 :: x224 :: x225 :: x226 :: x227 :: x228 :: x229 :: x230 :: x231 :: x232 :: x233 :: x234 :: x235 :: x236 :: x237 :: x238 :: x239 :: x240 :: x241 :: x242 :: x243 :: x244 :: x245 :: x246 :: x247 :: x248 :: x249 :: x250 :: x251 :: x252 :: x253 :: x254 :: x255 :: x256 :: x257 :: x258 :: x259 :: y260 :: y261 :: y262 :: y263 :: y264 :: y265 :: y266 :: y267 :: y268 :: y269 :: y270 :: y271 :: y272 :: y273 :: y274 :: y275 :: y276 :: y277 :: y278 :: y279 :: y280 :: y281 :: y282 :: y283 :: y284 :: y285 :: y286 :: y287 :: y288 :: y289 :: y290 :: y291 :: y292 :: y293 :: y294 :: y295 :: y296 :: y297 :: y298 :: y299 :: y300 :: y301 :: y302 :: y303 :: y304 :: y305 :: y306 :: x307 :: x308 :: x309 :: x310 :: ([] : List Value)), []⟩ (w.drewN q)) :
    Code.wp Try.prog (.loop (lp (bodyOf Try.f3) 8)) Q ⟨List.toArray (x0 :: x1 :: x2 :: .slice ag gs.length cg :: .int .i64 (d.length : Int) :: x5 :: x6 :: x7 :: .slice (some ⟨b8, 0, none⟩) d.length d.length :: x9 :: x10 :: x11 :: .slice (some ⟨bc, 0, none⟩) d.length d.length :: x13 :: x14 :: x15 :: x16 :: x17 :: x18 :: x19 :: x20 :: x21 :: .slice (some ⟨bo, 0, none⟩) (gs.length + 1) (gs.length + 1) :: x23 :: x24 :: x25 :: x26 :: .slice (some ⟨bm, 0, none⟩) d.length d.length :: x28 :: x29 :: x30 :: .int .i64 0 :: .int .i64 0 :: x33 :: x34 :: x35 :: x36 :: x37 :: x38 :: x39 :: x40 :: x41 :: x42 :: x43 :: x44 :: x45 :: x46 :: x47 :: x48 :: x49 :: x50 :: x51 :: x52 :: x53 :: x54 :: x55 :: x56 :: x57 :: x58 :: x59 :: x60 :: x61 :: x62 :: x63 :: x64 :: x65 :: x66 :: x67 :: x68 :: x69 :: x70 :: x71 :: x72 :: x73 :: x74 :: x75 :: x76 :: x77 :: x78 :: x79 :: x80 :: x81 :: x82 :: x83 :: x84 :: x85 :: x86 :: x87 :: x88 :: x89 :: x90 :: x91 :: x92 :: x93 :: x94 :: x95 :: x96 :: x97 :: x98 :: x99 :: x100 :: x101 :: x102 :: x103 :: x104 :: x105 :: x106 :: x107 :: x108 :: x109 :: x110 :: x111 :: x112 :: x113 :: x114 :: x115 :: x116 :: x117 :: x118 :: x119 :: x120 :: x121 :: x122 :: x123 :: x124 :: x125 :: x126 :: x127 :: x128 :: x129 :: x130 :: x131 :: x132 :: x133 :: x134 :: x135 :: x136 :: x137 :: x138 :: x139 :: x140 :: x141 :: x142 :: x143 :: x144 :: x145 :: x146 :: x147 :: x148 :: x149 :: x150 :: x151 :: x152 :: x153 :: x154 :: x155 :: x156 :: x157 :: x158 :: x159 :: x160 :: x161 :: x162 :: x163 :: x164 :: x165 :: x166 :: x167 :: x168 :: x169 :: x170 :: x171 :: x172 :: x173 :: x174 :: x175 :: x176 :: x177 :: x178 :: x179 :: x180 :: x181 :: x182 :: x183 :: x184 :: x185 :: x186 :: x187 :: x188 :: x189 :: x190 :: x191 :: x192 :: x193 :: x194 :: x195 :: x196 :: x197 :: x198 :: x199 :: x200 :: x201 :: x202 :: x203 :: x204 :: x205 :: x206 :: x207 :: x208 :: x209 :: x210 :: x211 :: x212 :: x213 :: x214 :: x215 :: x216 :: x217 :: x218 :: x219 :: x220 :: x221 :: x222 :: x223 :: x224 :: x225 :: x226 :: x227 :: x228 :: x229 :: x230 :: x231 :: x232 :: x233 :: x234 :: x235 :: x236 :: x237 :: x238 :: x239 :: x240 :: x241 :: x242 :: x243 :: x244 :: x245 :: x246 :: x247 :: x248 :: x249 :: x250 :: x251 :: x252 :: x253 :: x254 :: x255 :: x256 :: x257 :: x258 :: x259 :: x260 :: x261 :: x262 :: x263 :: x264 :: x265 :: x266 :: x267 :: x268 :: x269 :: x270 :: x271 :: x272 :: x273 :: x274 :: x275 :: x276 :: x277 :: x278 :: x279 :: x280 :: x281 :: x282 :: x283 :: x284 :: x285 :: x286 :: x287 :: x288 :: x289 :: x290 :: x291 :: x292 :: x293 :: x294 :: x295 :: x296 :: x297 :: x298 :: x299 :: x300 :: x301 :: x302 :: x303 :: x304 :: x305 :: x306 :: x307 :: x308 :: x309 :: x310 :: ([] : List Value)), []⟩ w := by
  conv => arg 2; arg 1; whnf
  have HK : Hid _ := hk
  have HG : Hid _ := hg
  have H8 : Hid _ := r8
  have HC : Hid _ := rc
  have HO : Hid _ := ro
  have HM : Hid _ := rm
  have HL : Hid _ := hpl
  have HY : Hid _ := hly
  clear hk hg r8 rc ro rm hpl hly
  go_loopw [31, 32] (fun mv pv wr => ∃ p m q : Nat, p ≤ d.length ∧ mv = .int .i64 (m : Int) ∧ pv = .int .i64 (p : Int) ∧ MOk gs fin p m ∧ wr = w.drewN q) (fun _ pv _ => d.length - (intOf pv).toNat)
  case atStart => exact ⟨0, 0, 0, Nat.zero_le _, rfl, rfl, MOk.zero HK.out, rfl⟩
  case round =>
    obtain ⟨p, m, q, hp, rfl, rfl, hmo, rfl⟩ := hrel
    have HMO : Hid _ := hmo
    have hml := hmo.1
    clear hmo
    by_cases hlt : p < d.length
    · obtain ⟨v, hv⟩ : ∃ v, v = nd0 fin p := ⟨_, rfl⟩
      have HV : Hid _ := hv
      have hvn : v < d.length := by rw [hv]; exact (HK.out.at hlt).1
      obtain ⟨l, hcg, hvc⟩ := HK.out.scc.whr_mem hvn
      have hil := HK.out.scc.whr_lt hvn
      obtain ⟨i, hi⟩ : ∃ i, i = whr gs v := ⟨_, rfl⟩
      rw [← hi] at hcg hil
      obtain ⟨c, hcc⟩ : ∃ c, c = Kf gs v := ⟨_, rfl⟩
      have hcc' : c = gs.length - 1 - i := by rw [hcc, hi]; rfl
      have hcl : c < gs.length := by omega
      have hb1 := HK.out.cnt_group hcg
      have hb2 := below_succ (EV gs (List.range d.length)) c
      have hb3 := below_mono (EV gs (List.range d.length)) (u := c + 1) (v := gs.length) (by omega)
      have hb4 : below (EV gs (List.range d.length)) gs.length = d.length := HK.out.below_all
      have hb1' : cnt (EV gs (List.range d.length)) c = l.length := by rw [hcc']; exact hb1
      rw [hb4] at hb3
      rw [hb1'] at hb2
      have hlp : 0 < l.length := List.length_pos_of_mem hvc
      have hlm : ∀ t, t < l.length → at0 pr (below (EV gs (List.range d.length)) c + t) = ((nd0 l t : Nat) : Int) := fun t ht => by rw [hcc']; exact HK.out.members HY.out hcg ht
      have hlast : nd0 l (l.length - 1) = hdOf gs i := by
        have h1 := (HK.out.hd hcg).1
        rw [List.getLast?_eq_getElem?] at h1
        simp [nd0, h1]
      obtain ⟨b0, hb0⟩ : ∃ b0, b0 = below (EV gs (List.range d.length)) c := ⟨_, rfl⟩
      obtain ⟨y, hy⟩ : ∃ y, below (EV gs (List.range d.length)) (c + 1) = y + 1 := ⟨below (EV gs (List.range d.length)) (c + 1) - 1, by omega⟩
      rw [← hb0] at hlm hb2
      rw [hy] at hb2 hb3
      have q0 := IRow.cell H8.out (j := p) (by rw [fl_length]; exact hlt)
      rw [at0_fl _ hlt, ← hv] at q0
      have q1 := IRow.cell HC.out (j := v) (by rw [fl_length]; exact hvn)
      rw [at0_fl _ hvn, ← hcc] at q1
      have q2 := IRow.cell HO.out (j := c + 1) (by rw [fl_length]; omega)
      rw [at0_fl _ (by omega), hy] at q2
      have q3 := IRow.cell HO.out (j := c) (by rw [fl_length]; omega)
      rw [at0_fl _ (by omega), ← hb0] at q3
      have q4 := IRow.cell HM.out (j := y) (by rw [HL.out]; omega)
      have e4 : at0 pr y = ((hdOf gs i : Nat) : Int) := by
        have h1 := hlm (l.length - 1) (by omega)
        rw [show b0 + (l.length - 1) = y by omega, hlast] at h1
        exact h1
      rw [e4] at q4
      have HCG : Hid _ := hcg
      have HI : Hid _ := hi
      have HLM : Hid _ := hlm
      have HB2 : Hid _ := hb2
      have hb5 : b0 ≤ y := by omega
      have hb6 : y + 1 ≤ d.length := by omega
      have ey : ((y + 1 : Nat) : Int) - 1 = (y : Int) := by omega
      have v0 : (0 : Int) ≤ (v : Int) := by omega
      have v1 : (v : Int) < (d.length : Int) := by omega
      have c0 : (0 : Int) ≤ (c : Int) := by omega
      have c1 : (c : Int) + 1 < (gs.length : Int) + 1 := by omega
      have c2 : (c : Int) < (gs.length : Int) + 1 := by omega
      have y0 : (0 : Int) ≤ (y : Int) := by omega
      have y1 : (y : Int) < (d.length : Int) := by omega
      clear hv hcg hvc hi hcc hcc' hb1 hb1' hb4 hlm hlast hb0 hy e4 hb2 hlp
      by_cases hhd : hdOf gs i = v
      · have t1 : (((hdOf gs i : Nat) : Int) != (v : Int)) = false := by rw [hhd]; simp
        obtain ⟨hmi, hmg, hmo⟩ := MOk.up_take HK.out hlt HMO.out (by rw [← HV.out, ← HI.out]; exact hhd)
        rw [← HV.out, ← HI.out] at hmi
        subst hmi
        have HMO2 : Hid _ := hmo
        obtain ⟨a, b, off, cap0, vs, hva, hmax, ha, hc⟩ := HG.out
        rw [List.length_map] at hva hmax ha hc
        obtain ⟨hpa, hbB⟩ := ha (by omega)
        obtain ⟨hcv, hrow⟩ := hc m hmg
        have erow : row0 (gs.map ns) m = ns l := by simp [row0, HCG.out]
        rw [erow] at hrow
        cases hva
        subst hpa
        have hgi : ¬ ((m : Int) ≥ (gs.length : Int)) := by omega
        have y2 : (b0 : Int) ≤ (y : Int) + 1 := by omega
        have y3 : (y : Int) + 1 ≤ (d.length : Int) := by omega
        have m0 : (0 : Int) ≤ (m : Int) := by omega
        have m1 : (m : Int) < (gs.length : Int) := by omega
        obtain ⟨gv, hgv⟩ : ∃ gv, gv = vs m := ⟨_, rfl⟩
        rw [← hgv] at hcv hrow
        have HRW : Hid _ := hrow
        have hlen : l.length ≤ 65536 := by have := HB2.out; omega
        clear hmo ha hc hmax hhd erow hgv hrow
        have HSL : Hid (IntsIn (fun b => b = bm) w (.slice (some ⟨bm, b0, none⟩) (y + 1 - b0) (d.length - b0)) (ns l)) := by
          have h2 := HB2.out
          refine ⟨some ⟨bm, b0, none⟩, bm, b0, d.length - b0, by rw [ns_length, show l.length = y + 1 - b0 by omega], by rw [ns_length]; unfold maxLen; omega, fun _ => ⟨rfl, rfl⟩, fun t ht => ?_⟩
          rw [ns_length] at ht
          rw [IRow.cell HM.out (j := b0 + t) (by rw [HL.out]; omega), HLM.out t ht, at0_nd0 ht]
        go_wp2
        go_quiet ((go_at_call 16; exact same_quiet _ _ w q _ _ _ (ns l) HRW.out HSL.out (by rw [ns_length]; omega)))
        generalize nq = n1
        go_wp2
        go_roundw
        case rel => exact ⟨p + 1, m + 1, _, hlt, by go_num, by go_num, HMO2.out, rfl⟩
        case measure => simp [intOf]; omega
      · have t1 : (((hdOf gs i : Nat) : Int) != (v : Int)) = true := by
          rw [bne_iff_ne]; omega
        have hsk : Hid (MOk gs fin (p + 1) m) := MOk.up_skip HK.out hlt HMO.out (by rw [← HV.out, ← HI.out]; exact hhd)
        clear hhd
        go_wp2
        go_roundw
        case rel => exact ⟨p + 1, m, q, hlt, rfl, by go_num, hsk.out, rfl⟩
        case measure => simp [intOf]; omega
    · have hp' : p = d.length := by omega
      subst hp'
      have hm : m = gs.length := MOk.top_eq HK.out HMO.out
      subst hm
      go_wp2
      apply hQ

end Go.Proofs.Qxb6603026a
