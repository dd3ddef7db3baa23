/-
  FnGroupsMatchKosarajuModel (function 3): one of its loops.
-/
import Derived.Test.Qxb6603026aKLay
import Derived.Test.Qxb6603026aKosVisit
import Derived.Test.Qxb6603026aKosPure
import Derived.Test.Qxb6603026aPred
import Derived.Test.Qxb6603026aGRel
import Derived.Deep.QuietTactic
import Derived.BigQuiet
import Derived.BigRegion
import Derived.Outline
namespace Go.Proofs.Qxb6603026a
open Go.RowKit
set_option linter.unusedSimpArgs false
set_option linter.unusedVariables false


set_option maxRecDepth 100000 in
set_option maxHeartbeats 2000000 in
theorem memLoop (B bm b7 bc : Nat) (w4 w : World) (d : List (List Int)) (gs : List (List Nat)) (pre fin : List Nat) (nx pr : List Int) {Q : Exit → Act → World → Prop} {x0 x1 x2 x3 x4 x5 x6 x8 x9 x10 x11 x13 x14 x15 x16 x17 x18 x19 x20 x21 x22 x23 x24 x26 x29 x30 x31 x32 x33 x34 x35 x36 x37 x38 x39 x40 x41 x42 x43 x44 x45 x46 x47 x48 x49 x50 x51 x52 x53 x54 x55 x56 x57 x58 x59 x60 x61 x62 x63 x64 x65 x66 x67 x68 x69 x70 x71 x72 x73 x74 x75 x76 x77 x78 x79 x80 x81 x82 x83 x84 x85 x86 x87 x88 x89 x90 x91 x92 x93 x94 x95 x96 x97 x98 x99 x100 x101 x102 x103 x104 x105 x106 x107 x108 x109 x110 x111 x112 x113 x114 x115 x116 x117 x118 x119 x120 x121 x122 x123 x124 x125 x126 x127 x128 x129 x130 x131 x132 x133 x134 x135 x136 x137 x138 x139 x140 x141 x142 x143 x144 x145 x146 x147 x148 x149 x150 x151 x152 x153 x154 x155 x156 x157 x158 x159 x160 x161 x162 x163 x164 x165 x166 x167 x168 x169 x170 x171 x172 x173 x174 x175 x176 x177 x178 x179 x180 x181 x182 x183 x184 x185 x186 x187 x188 x189 x190 x191 x192 x193 x194 x195 x196 x197 x198 x199 x200 x201 x202 x203 x204 x205 x206 x207 x208 x209 x210 x211 x212 x213 x214 x215 x216 x217 x218 x219 x220 x221 x222 x223 x224 x225 x226 x227 x228 x229 x230 x231 x232 x233 x234 x235 x236 x237 x238 x239 x240 x241 x242 x243 x244 x245 x246 x247 x248 x249 x250 x251 x252 x253 x254 x255 x256 x257 x258 x259 x260 x261 x262 x263 x264 x265 x266 x267 x268 x269 x270 x271 x272 x273 x274 x275 x276 x277 x278 x279 x280 x281 x282 x283 x284 x285 x286 x287 x288 x289 x290 x291 x292 x293 x294 x295 x296 x297 x298 x299 x300 x301 x302 x303 x304 x305 x306 x307 x308 x309 x310 : Value}
    (hn : d.length ≤ 65536) (hk : KS (grOf d) gs pre fin) (hgl : gs.length ≤ d.length) (h7 : b7 < B) (hc : bc < B) (hm : B < bm) (r7 : IRow w4 b7 d.length (fl d.length (nd0 pre))) (rc : IRow w4 bc d.length (fl d.length (Kf gs)))
    (hbl : Below B w4 w) (rf : IRow w B gs.length nx) (hnx : NextOk (gN gs.length) (EV gs (List.range d.length)) [] nx) (rm : IRow w bm d.length pr) (hpl : pr.length = d.length)
    (hQ : ∀ (y28 y29 y30 y235 y236 y237 y238 y239 y240 y241 y242 y243 y244 y245 y246 y247 y248 y249 y250 y251 y252 y253 y254 y255 y256 y257 y258 y259 : Value) (pr1 : List Int) (w1 : World), Below B w4 w1 → IRow w1 bm d.length pr1 → pr1.length = d.length → LayOk (EV gs (List.range d.length)) (EV gs pre.reverse) gs.length pr1 → Q (.exit 18) ⟨List.toArray (x0 :: x1 :: x2 :: x3 :: x4 :: x5 :: x6 :: .slice (some ⟨b7, 0, none⟩) d.length d.length :: x8 :: x9 :: x10 :: x11 :: .slice (some ⟨bc, 0, none⟩) d.length d.length :: x13 :: x14 :: x15 :: x16 :: x17 :: x18 :: x19 :: x20 :: x21 :: x22 :: x23 :: x24 :: .slice (some ⟨B, 0, none⟩) gs.length gs.length :: x26 :: .slice (some ⟨bm, 0, none⟩) d.length d.length :: y28 :: y29 :: y30 :: x31 :: x32 :: x33 :: x34 :: x35 :: x36 :: x37 :: x38 :: x39 :: x40 :: x41 :: x42 :: x43 :: x44 :: x45 :: x46 :: x47 :: x48 :: x49 :: x50 :: x51 :: x52 :: x53 :: x54 :: x55 :: x56 :: x57 :: x58 :: x59 :: x60 :: x61 :: x62 :: x63 :: x64 :: x65 :: x66 :: x67 :: x68 :: x69 :: x70 :: x71 :: x72 :: x73 :: x74 :: x75 :: x76 :: x77 :: x78 :: x79 :: x80 :: x81 :: x82 :: x83 :: x84 :: x85 :: x86 :: x87 :: x88 :: x89 :: x90 :: x91 :: x92 :: x93 :: x94 :: x95 :: x96 :: x97 :: x98 :: x99 :: x100 :: x101 :: x102 :: x103 :: x104 :: x105 :: x106 :: x107 :: x108 :: x109 :: x110 :: x111 :: x112 :: x113 :: x114 :: x115 :: x116 :: x117 :: x118 :: x119 :: x120 :: x121 :: x122 :: x123 :: x124 :: x125 :: x126 :: x127 :: x128 :: x129 :: x130 :: x131 :: x132 :: x133 :: x134 :: x135 :: x136 :: x137 :: x138 :: x139 :: x140 :: x141 :: x142 :: x143 :: x144 :: x145 :: x146 :: x147 :: x148 :: x149 :: x150 :: x151 :: x152 :: x153 :: x154 :: x155 :: x156 :: x157 :: x158 :: x159 :: x160 :: x161 :: x162 :: x163 :: x164 :: x165 :: x166 :: x167 :: x168 :: x169 :: x170 :: x171 :: x172 :: x173 :: x174 :: x175 :: x176 :: x177 :: x178 :: x179 :: x180 :: x181 :: x182 :: x183 :: x184 :: x185 :: x186 :: x187 :: x188 :: x189 :: x190 :: x191 :: x192 :: x193 :: x194 :: x195 :: x196 :: x197 :: x198 :: x199 :: x200 :: x201 :: x202 :: x203 :: x204 :: x205 :: x206 :: x207 :: x208 :: x209 :: x210 :: x211 :: x212 :: x213 :: x214 :: x215 :: x216 :: x217 :: x218 :: x219 :: x220 :: x221 :: x222 :: x223 :: x224 :: x225 :: x226 :: x227 :: x228 :: x229 :: x230 :: x231 :: x232 :: x233 :: x234 :: y235 :: y236 :: y237 :: y238 :: y239 :: y240 :: y241 :: y242 :: y243 :: y244 :: y245 :: y246 :: y247 :: y248 :: y249 :: y250 :: y251 :: y252 :: y253 :: y254 :: y255 :: y256 :: y257 :: y258 :: y259 :: x260 :: x261 :: x262 :: x263 :: x264 :: x265 :: x266 :: x267 :: x268 :: x269 :: x270 :: x271 :: x272 :: x273 :: x274 :: x275 :: x276 :: x277 :: x278 :: x279 :: x280 :: x281 :: x282 :: x283 :: x284 :: x285 :: x286 :: x287 :: x288 :: x289 :: x290 :: x291 :: x292 :: x293 :: x294 :: x295 :: x296 :: x297 :: x298 :: x299 :: x300 :: x301 :: x302 :: x303 :: x304 :: x305 :: x306 :: x307 :: x308 :: x309 :: x310 :: ([] : List Value)), []⟩ w1) :
    Code.wp Try.prog (.loop (lp (bodyOf Try.f3) 7)) Q ⟨List.toArray (x0 :: x1 :: x2 :: x3 :: x4 :: x5 :: x6 :: .slice (some ⟨b7, 0, none⟩) d.length d.length :: x8 :: x9 :: x10 :: x11 :: .slice (some ⟨bc, 0, none⟩) d.length d.length :: x13 :: x14 :: x15 :: x16 :: x17 :: x18 :: x19 :: x20 :: x21 :: x22 :: x23 :: x24 :: .slice (some ⟨B, 0, none⟩) gs.length gs.length :: x26 :: .slice (some ⟨bm, 0, none⟩) d.length d.length :: .int .i64 ((d.length : Int) - 1) :: x29 :: x30 :: x31 :: x32 :: x33 :: x34 :: x35 :: x36 :: x37 :: x38 :: x39 :: x40 :: x41 :: x42 :: x43 :: x44 :: x45 :: x46 :: x47 :: x48 :: x49 :: x50 :: x51 :: x52 :: x53 :: x54 :: x55 :: x56 :: x57 :: x58 :: x59 :: x60 :: x61 :: x62 :: x63 :: x64 :: x65 :: x66 :: x67 :: x68 :: x69 :: x70 :: x71 :: x72 :: x73 :: x74 :: x75 :: x76 :: x77 :: x78 :: x79 :: x80 :: x81 :: x82 :: x83 :: x84 :: x85 :: x86 :: x87 :: x88 :: x89 :: x90 :: x91 :: x92 :: x93 :: x94 :: x95 :: x96 :: x97 :: x98 :: x99 :: x100 :: x101 :: x102 :: x103 :: x104 :: x105 :: x106 :: x107 :: x108 :: x109 :: x110 :: x111 :: x112 :: x113 :: x114 :: x115 :: x116 :: x117 :: x118 :: x119 :: x120 :: x121 :: x122 :: x123 :: x124 :: x125 :: x126 :: x127 :: x128 :: x129 :: x130 :: x131 :: x132 :: x133 :: x134 :: x135 :: x136 :: x137 :: x138 :: x139 :: x140 :: x141 :: x142 :: x143 :: x144 :: x145 :: x146 :: x147 :: x148 :: x149 :: x150 :: x151 :: x152 :: x153 :: x154 :: x155 :: x156 :: x157 :: x158 :: x159 :: x160 :: x161 :: x162 :: x163 :: x164 :: x165 :: x166 :: x167 :: x168 :: x169 :: x170 :: x171 :: x172 :: x173 :: x174 :: x175 :: x176 :: x177 :: x178 :: x179 :: x180 :: x181 :: x182 :: x183 :: x184 :: x185 :: x186 :: x187 :: x188 :: x189 :: x190 :: x191 :: x192 :: x193 :: x194 :: x195 :: x196 :: x197 :: x198 :: x199 :: x200 :: x201 :: x202 :: x203 :: x204 :: x205 :: x206 :: x207 :: x208 :: x209 :: x210 :: x211 :: x212 :: x213 :: x214 :: x215 :: x216 :: x217 :: x218 :: x219 :: x220 :: x221 :: x222 :: x223 :: x224 :: x225 :: x226 :: x227 :: x228 :: x229 :: x230 :: x231 :: x232 :: x233 :: x234 :: x235 :: x236 :: x237 :: x238 :: x239 :: x240 :: x241 :: x242 :: x243 :: x244 :: x245 :: x246 :: x247 :: x248 :: x249 :: x250 :: x251 :: x252 :: x253 :: x254 :: x255 :: x256 :: x257 :: x258 :: x259 :: x260 :: x261 :: x262 :: x263 :: x264 :: x265 :: x266 :: x267 :: x268 :: x269 :: x270 :: x271 :: x272 :: x273 :: x274 :: x275 :: x276 :: x277 :: x278 :: x279 :: x280 :: x281 :: x282 :: x283 :: x284 :: x285 :: x286 :: x287 :: x288 :: x289 :: x290 :: x291 :: x292 :: x293 :: x294 :: x295 :: x296 :: x297 :: x298 :: x299 :: x300 :: x301 :: x302 :: x303 :: x304 :: x305 :: x306 :: x307 :: x308 :: x309 :: x310 :: ([] : List Value)), []⟩ w := by
  conv => arg 2; arg 1; whnf
  have hpn := hk.plen
  have hpn' : pre.length = d.length := hpn
  have hba := hk.below_all
  have e0 : back gs pre d.length = [] := by have h0 := back_none gs pre; rwa [hpn'] at h0
  have HBA : Hid (below (EV gs (List.range d.length)) gs.length = d.length) := hba
  have HK : Hid _ := hk
  have H7 : Hid _ := r7
  have HC : Hid _ := rc
  have HB0 : Hid _ := hbl
  have HF0 : Hid _ := rf
  have HN0 : Hid (NextOk (gN gs.length) (EV gs (List.range d.length)) (back gs pre d.length) nx) := by rw [e0]; exact hnx
  have HM0 : Hid _ := rm
  have HL0 : Hid _ := hpl
  have HY0 : Hid (LayOk (EV gs (List.range d.length)) (back gs pre d.length) gs.length pr) := by rw [e0]; exact LayOk.start _ _ _
  have HPN : Hid _ := hpn'
  clear hk r7 rc hbl rf hnx rm hpl hba hpn hpn' e0
  go_loopw [28] (fun vv wr => ∃ (P : Nat) (z : Int) (nx pr : List Int), P ≤ d.length ∧ z = (P : Int) - 1 ∧ vv = .int .i64 z ∧ Below B w4 wr ∧ IRow wr B gs.length nx ∧ NextOk (gN gs.length) (EV gs (List.range d.length)) (back gs pre P) nx ∧ IRow wr bm d.length pr ∧ pr.length = d.length ∧ LayOk (EV gs (List.range d.length)) (back gs pre P) gs.length pr) (fun vv _ => ((intOf vv) + 1).toNat)
  case atStart => exact ⟨d.length, _, nx, pr, Nat.le_refl _, rfl, rfl, HB0.out, HF0.out, HN0.out, HM0.out, HL0.out, HY0.out⟩
  case round =>
    clear HB0 HF0 HN0 HM0 HL0 HY0
    obtain ⟨P, z, nx1, pr1, hP, hz, rfl, hbl, rf, hnx, rm, hpl, hly⟩ := hrel
    have HB : Hid _ := hbl
    have HF : Hid _ := rf
    have HN : Hid _ := hnx
    have HM : Hid _ := rm
    have HL : Hid _ := hpl
    have HY : Hid _ := hly
    by_cases hP0 : 0 < P
    · obtain ⟨p, rfl⟩ : ∃ p, P = p + 1 := ⟨P - 1, by omega⟩
      obtain rfl : z = (p : Int) := by omega
      have hpn : p < d.length := by omega
      obtain ⟨u, hu⟩ : ∃ u, u = nd0 pre p := ⟨_, rfl⟩
      have hun : u < d.length := by rw [hu]; exact (HK.out.pmem _).1 (nd0_mem (by have := HPN.out; omega))
      obtain ⟨c, hcc⟩ : ∃ c, c = Kf gs u := ⟨_, rfl⟩
      have hcl : c < gs.length := by rw [hcc]; exact (Kf_lt HK.out.scc (v := u) hun).1
      have q0 := (IRow.below H7.out hbl h7).cell (j := p) (by rw [fl_length]; exact hpn)
      rw [at0_fl _ hpn, ← hu] at q0
      have q1 := (IRow.below HC.out hbl hc).cell (j := u) (by rw [fl_length]; exact hun)
      rw [at0_fl _ hun, ← hcc] at q1
      have hbs : back gs pre p = back gs pre (p + 1) ++ [(u, c)] := by rw [hcc, hu]; exact back_step (by have := HPN.out; omega)
      obtain ⟨y1, y2⟩ := LayOk.step (i := u) (w := c) (fun v => by rw [hcc, hu]; exact HK.out.back_le hpn v) hcl (by rw [HBA.out]; exact hpl) hly
      have e2 := rf.cell (j := c) (by have : nx1.length = gs.length := hnx.1; omega)
      rw [hnx.2 c hcl] at e2
      have fz2 := rf.frozen c
      obtain ⟨q, hqq⟩ : ∃ q, q = below (EV gs (List.range d.length)) c + cnt (back gs pre (p + 1)) c := ⟨_, rfl⟩
      have HN2 : Hid (NextOk (gN gs.length) (EV gs (List.range d.length)) (back gs pre p) (nx1.set c ((q : Int) + 1))) := by rw [hbs]; exact NextOk.step hnx hcl (by rw [hqq])
      rw [← hqq] at y1 y2 e2
      have HY2 : Hid (LayOk (EV gs (List.range d.length)) (back gs pre p) gs.length (pr1.set q (u : Int))) := by rw [hbs]; exact y2
      have e3 := rm.cell (j := q) y1
      have fz3 := rm.frozen q
      have hqn : q < d.length := by omega
      have q00 : (0 : Int) ≤ (q : Int) := by omega
      have q01 : (q : Int) < (d.length : Int) := by omega
      have c0 : (0 : Int) ≤ (c : Int) := by omega
      have c1 : (c : Int) < (gs.length : Int) := by omega
      have u0 : (0 : Int) ≤ (u : Int) := by omega
      have u1 : (u : Int) < (d.length : Int) := by omega
      have hne : bm ≠ B := by omega
      have hne' : B ≠ bm := by omega
      clear hz hu hcc hbs y2 hqq hbl rf hnx rm hpl hly
      go_wp2
      go_roundw
      case rel => exact ⟨p, _, _, _, by omega, rfl, rfl, (HB.out.setCell (by show B ≤ bm; omega) _).setCell (Nat.le_refl _) _, IRow.set (IRow.other HF.out (by show bm ≠ B; omega) _) c _, HN2.out, IRow.other (IRow.set HM.out q _) (by show B ≠ bm; omega) _, by simpa using HL.out, HY2.out⟩
      case measure => simp [intOf]
    · obtain rfl : P = 0 := by omega
      obtain rfl : z = -1 := by omega
      have hly2 : Hid (LayOk (EV gs (List.range d.length)) (EV gs pre.reverse) gs.length pr1) := by rw [← back_all]; exact hly
      clear hz hbl rf hnx rm hpl hly
      go_wp2
      apply hQ
      · exact HB.out
      · exact HM.out
      · exact HL.out
      · exact hly2.out

end Go.Proofs.Qxb6603026a
