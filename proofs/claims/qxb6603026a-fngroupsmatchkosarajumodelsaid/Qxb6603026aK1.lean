/-
  FnGroupsMatchKosarajuModel (function 3): one of its loops.
-/
import Derived.Test.Qxb6603026aKosVisit
import Derived.Test.Qxb6603026aKosPure
import Derived.Test.Qxb6603026aPred
import Derived.Test.Qxb6603026aGRel
import Derived.Deep.QuietTactic
import Derived.BigQuiet
import Derived.BigRegion
import Derived.Outline
namespace Go.Proofs.Qxb6603026a
open Go.RowKit
set_option linter.unusedSimpArgs false
set_option linter.unusedVariables false


set_option maxRecDepth 100000 in
set_option maxHeartbeats 2000000 in
theorem dfsLoop (B bs bp bq : Nat) (w : World) (d : List (List Int)) (ad : Option Addr) (cd : Nat) {Q : Exit → Act → World → Prop} {x1 x2 x3 x7 x8 x9 x10 x11 x12 x13 x14 x15 x16 x17 x18 x19 x20 x21 x22 x23 x24 x25 x26 x27 x28 x29 x30 x31 x32 x33 x34 x35 x36 x37 x38 x39 x40 x41 x42 x43 x44 x45 x46 x47 x48 x49 x50 x51 x52 x53 x54 x55 x56 x57 x58 x59 x60 x61 x62 x63 x64 x65 x66 x67 x68 x69 x70 x71 x72 x73 x74 x75 x76 x77 x78 x79 x80 x81 x82 x83 x84 x85 x86 x87 x88 x89 x90 x91 x92 x93 x94 x95 x96 x97 x98 x99 x100 x101 x102 x103 x104 x105 x106 x107 x108 x109 x110 x111 x112 x113 x114 x115 x116 x117 x118 x119 x120 x121 x122 x123 x124 x125 x126 x127 x128 x129 x130 x131 x132 x133 x134 x135 x136 x137 x138 x139 x140 x141 x142 x143 x144 x145 x146 x147 x148 x149 x150 x151 x152 x153 x154 x155 x156 x157 x158 x159 x160 x161 x162 x163 x164 x165 x166 x167 x168 x169 x170 x171 x172 x173 x174 x175 x176 x177 x178 x179 x180 x181 x182 x183 x184 x185 x186 x187 x188 x189 x190 x191 x192 x193 x194 x195 x196 x197 x198 x199 x200 x201 x202 x203 x204 x205 x206 x207 x208 x209 x210 x211 x212 x213 x214 x215 x216 x217 x218 x219 x220 x221 x222 x223 x224 x225 x226 x227 x228 x229 x230 x231 x232 x233 x234 x235 x236 x237 x238 x239 x240 x241 x242 x243 x244 x245 x246 x247 x248 x249 x250 x251 x252 x253 x254 x255 x256 x257 x258 x259 x260 x261 x262 x263 x264 x265 x266 x267 x268 x269 x270 x271 x272 x273 x274 x275 x276 x277 x278 x279 x280 x281 x282 x283 x284 x285 x286 x287 x288 x289 x290 x291 x292 x293 x294 x295 x296 x297 x298 x299 x300 x301 x302 x303 x304 x305 x306 x307 x308 x309 x310 : Value}
    (hn : d.length ≤ 65536) (hw : wordsOf d ≤ 131072) (hr : InRange d) (hbs : B ≤ bs) (hbp : B ≤ bp) (hbq : B ≤ bq) (h1 : bs ≠ bp) (h2 : bs ≠ bq) (h3 : bp ≠ bq) (hd : RowsAt B w (.slice ad d.length cd) d) (hv : VM d.length bs bp bq [] [] w)
    (hQ : ∀ (y6 y58 y59 y60 y61 y62 y63 y64 y65 y66 y67 y68 y69 y70 y71 : Value) (pre fin : List Nat) (w1 : World), VM d.length bs bp bq pre fin w1 → DfsTo (grOf d) d.length pre fin → Below B w w1 → Q (.exit 0) ⟨List.toArray (.slice ad d.length cd :: x1 :: x2 :: x3 :: .int .i64 (d.length : Int) :: .pointer (some ⟨bs, 0, none⟩) :: y6 :: x7 :: x8 :: x9 :: x10 :: x11 :: x12 :: x13 :: x14 :: x15 :: x16 :: x17 :: x18 :: x19 :: x20 :: x21 :: x22 :: x23 :: x24 :: x25 :: x26 :: x27 :: x28 :: x29 :: x30 :: x31 :: x32 :: x33 :: x34 :: x35 :: x36 :: x37 :: x38 :: x39 :: x40 :: x41 :: x42 :: x43 :: x44 :: x45 :: x46 :: x47 :: x48 :: x49 :: x50 :: x51 :: x52 :: x53 :: x54 :: x55 :: x56 :: x57 :: y58 :: y59 :: y60 :: y61 :: y62 :: y63 :: y64 :: y65 :: y66 :: y67 :: y68 :: y69 :: y70 :: y71 :: x72 :: x73 :: x74 :: x75 :: x76 :: x77 :: x78 :: x79 :: x80 :: x81 :: x82 :: x83 :: x84 :: x85 :: x86 :: x87 :: x88 :: x89 :: x90 :: x91 :: x92 :: x93 :: x94 :: x95 :: x96 :: x97 :: x98 :: x99 :: x100 :: x101 :: x102 :: x103 :: x104 :: x105 :: x106 :: x107 :: x108 :: x109 :: x110 :: x111 :: x112 :: x113 :: x114 :: x115 :: x116 :: x117 :: x118 :: x119 :: x120 :: x121 :: x122 :: x123 :: x124 :: x125 :: x126 :: x127 :: x128 :: x129 :: x130 :: x131 :: x132 :: x133 :: x134 :: x135 :: x136 :: x137 :: x138 :: x139 :: x140 :: x141 :: x142 :: x143 :: x144 :: x145 :: x146 :: x147 :: x148 :: x149 :: x150 :: x151 :: x152 :: x153 :: x154 :: x155 :: x156 :: x157 :: x158 :: x159 :: x160 :: x161 :: x162 :: x163 :: x164 :: x165 :: x166 :: x167 :: x168 :: x169 :: x170 :: x171 :: x172 :: x173 :: x174 :: x175 :: x176 :: x177 :: x178 :: x179 :: x180 :: x181 :: x182 :: x183 :: x184 :: x185 :: x186 :: x187 :: x188 :: x189 :: x190 :: x191 :: x192 :: x193 :: x194 :: x195 :: x196 :: x197 :: x198 :: x199 :: x200 :: x201 :: x202 :: x203 :: x204 :: x205 :: x206 :: x207 :: x208 :: x209 :: x210 :: x211 :: x212 :: x213 :: x214 :: x215 :: x216 :: x217 :: x218 :: x219 :: x220 :: x221 :: x222 :: x223 :: x224 :: x225 :: x226 :: x227 :: x228 :: x229 :: x230 :: x231 :: x232 :: x233 :: x234 :: x235 :: x236 :: x237 :: x238 :: x239 :: x240 :: x241 :: x242 :: x243 :: x244 :: x245 :: x246 :: x247 :: x248 :: x249 :: x250 :: x251 :: x252 :: x253 :: x254 :: x255 :: x256 :: x257 :: x258 :: x259 :: x260 :: x261 :: x262 :: x263 :: x264 :: x265 :: x266 :: x267 :: x268 :: x269 :: x270 :: x271 :: x272 :: x273 :: x274 :: x275 :: x276 :: x277 :: x278 :: x279 :: x280 :: x281 :: x282 :: x283 :: x284 :: x285 :: x286 :: x287 :: x288 :: x289 :: x290 :: x291 :: x292 :: x293 :: x294 :: x295 :: x296 :: x297 :: x298 :: x299 :: x300 :: x301 :: x302 :: x303 :: x304 :: x305 :: x306 :: x307 :: x308 :: x309 :: x310 :: ([] : List Value)), []⟩ w1) :
    Code.wp Try.prog (.loop (lp (bodyOf Try.f3) 0)) Q ⟨List.toArray (.slice ad d.length cd :: x1 :: x2 :: x3 :: .int .i64 (d.length : Int) :: .pointer (some ⟨bs, 0, none⟩) :: .int .i64 0 :: x7 :: x8 :: x9 :: x10 :: x11 :: x12 :: x13 :: x14 :: x15 :: x16 :: x17 :: x18 :: x19 :: x20 :: x21 :: x22 :: x23 :: x24 :: x25 :: x26 :: x27 :: x28 :: x29 :: x30 :: x31 :: x32 :: x33 :: x34 :: x35 :: x36 :: x37 :: x38 :: x39 :: x40 :: x41 :: x42 :: x43 :: x44 :: x45 :: x46 :: x47 :: x48 :: x49 :: x50 :: x51 :: x52 :: x53 :: x54 :: x55 :: x56 :: x57 :: x58 :: x59 :: x60 :: x61 :: x62 :: x63 :: x64 :: x65 :: x66 :: x67 :: x68 :: x69 :: x70 :: x71 :: x72 :: x73 :: x74 :: x75 :: x76 :: x77 :: x78 :: x79 :: x80 :: x81 :: x82 :: x83 :: x84 :: x85 :: x86 :: x87 :: x88 :: x89 :: x90 :: x91 :: x92 :: x93 :: x94 :: x95 :: x96 :: x97 :: x98 :: x99 :: x100 :: x101 :: x102 :: x103 :: x104 :: x105 :: x106 :: x107 :: x108 :: x109 :: x110 :: x111 :: x112 :: x113 :: x114 :: x115 :: x116 :: x117 :: x118 :: x119 :: x120 :: x121 :: x122 :: x123 :: x124 :: x125 :: x126 :: x127 :: x128 :: x129 :: x130 :: x131 :: x132 :: x133 :: x134 :: x135 :: x136 :: x137 :: x138 :: x139 :: x140 :: x141 :: x142 :: x143 :: x144 :: x145 :: x146 :: x147 :: x148 :: x149 :: x150 :: x151 :: x152 :: x153 :: x154 :: x155 :: x156 :: x157 :: x158 :: x159 :: x160 :: x161 :: x162 :: x163 :: x164 :: x165 :: x166 :: x167 :: x168 :: x169 :: x170 :: x171 :: x172 :: x173 :: x174 :: x175 :: x176 :: x177 :: x178 :: x179 :: x180 :: x181 :: x182 :: x183 :: x184 :: x185 :: x186 :: x187 :: x188 :: x189 :: x190 :: x191 :: x192 :: x193 :: x194 :: x195 :: x196 :: x197 :: x198 :: x199 :: x200 :: x201 :: x202 :: x203 :: x204 :: x205 :: x206 :: x207 :: x208 :: x209 :: x210 :: x211 :: x212 :: x213 :: x214 :: x215 :: x216 :: x217 :: x218 :: x219 :: x220 :: x221 :: x222 :: x223 :: x224 :: x225 :: x226 :: x227 :: x228 :: x229 :: x230 :: x231 :: x232 :: x233 :: x234 :: x235 :: x236 :: x237 :: x238 :: x239 :: x240 :: x241 :: x242 :: x243 :: x244 :: x245 :: x246 :: x247 :: x248 :: x249 :: x250 :: x251 :: x252 :: x253 :: x254 :: x255 :: x256 :: x257 :: x258 :: x259 :: x260 :: x261 :: x262 :: x263 :: x264 :: x265 :: x266 :: x267 :: x268 :: x269 :: x270 :: x271 :: x272 :: x273 :: x274 :: x275 :: x276 :: x277 :: x278 :: x279 :: x280 :: x281 :: x282 :: x283 :: x284 :: x285 :: x286 :: x287 :: x288 :: x289 :: x290 :: x291 :: x292 :: x293 :: x294 :: x295 :: x296 :: x297 :: x298 :: x299 :: x300 :: x301 :: x302 :: x303 :: x304 :: x305 :: x306 :: x307 :: x308 :: x309 :: x310 :: ([] : List Value)), []⟩ w := by
  conv => arg 2; arg 1; whnf
  have HD : Hid _ := hd
  have HW : Hid _ := hw
  have HR : Hid _ := hr
  have HV0 : Hid _ := hv
  clear hd hw hr hv
  go_loopw [6] (fun vv wr => ∃ (v : Nat) (pre fin : List Nat), v ≤ d.length ∧ vv = .int .i64 (v : Int) ∧ VM d.length bs bp bq pre fin wr ∧ VP d.length pre fin ∧ DfsTo (grOf d) v pre fin ∧ Below B w wr) (fun vv _ => d.length - (intOf vv).toNat)
  case atStart => exact ⟨0, [], [], Nat.zero_le _, rfl, HV0.out, VP.start _, ⟨rfl, rfl⟩, Below.refl _ _⟩
  case round =>
    clear HV0
    obtain ⟨v, pre, fin, hv1, rfl, V, P, D, BL⟩ := hrel
    have HV : Hid _ := V
    have HP : Hid _ := P
    have HDf : Hid _ := D
    have HB : Hid _ := BL
    by_cases hlt : v < d.length
    · have c0 := V.c0
      have hrj := V.rp.cell (j := v) (by rw [fl_length]; exact hlt)
      rw [at0_fl _ hlt] at hrj
      clear V P D BL
      by_cases hvp : v ∈ pre
      · have t1 : ((ordOf pre v : Int) == 0) = false := by
          have := ordOf_pos.2 hvp
          rw [beq_eq_false_iff_ne]; omega
        have HVP : Hid _ := hvp
        clear hvp
        go_wp2
        go_roundw
        case rel => exact ⟨v + 1, pre, fin, hlt, by go_num, HV.out, HP.out, DfsTo.skip HDf.out HVP.out, HB.out⟩
        case measure => simp [intOf]; omega
      · have t1 : ((ordOf pre v : Int) == 0) = true := by
          rw [ordOf_zero.2 hvp]; rfl
        have HVP : Hid _ := hvp
        clear hvp
        go_wp2_with fail
        refine (visitRec_any B bs bp bq d _ hn HW.out HR.out hbs hbp hbq h1 h2 h3 d.length pre fin v wr (by omega) (RowsAt.below HD.out HB.out) HV.out HP.out hlt HVP.out).mono ?_
        rintro e w2 ⟨rfl, pre2, fin2, V2, P2, R2, B2⟩
        have D2 : Hid (DfsTo (grOf d) (v + 1) pre2 fin2) := VRun.to HDf.out HVP.out R2
        have HV2 : Hid _ := V2
        have HP2 : Hid _ := P2
        have HB2 : Hid (Below B w w2) := HB.out.trans B2
        clear V2 P2 R2 B2 HV HP HDf HB
        go_wp2
        go_roundw
        case rel => exact ⟨v + 1, pre2, fin2, hlt, by go_num, HV2.out, HP2.out, D2.out, HB2.out⟩
        case measure => simp [intOf]; omega
    · have hv' : v = d.length := by omega
      subst hv'
      clear V P D BL
      go_wp2
      apply hQ
      · exact HV.out
      · exact HDf.out
      · exact HB.out

end Go.Proofs.Qxb6603026a
