/-
  FnGroupsMatchKosarajuModel (function 3): one of its loops.
-/
import Derived.Test.Qxb6603026aKosVisit
import Derived.Test.Qxb6603026aKosPure
import Derived.Test.Qxb6603026aPred
import Derived.Test.Qxb6603026aGRel
import Derived.Deep.QuietTactic
import Derived.BigQuiet
import Derived.BigRegion
import Derived.Outline
namespace Go.Proofs.Qxb6603026a
open Go.RowKit
set_option linter.unusedSimpArgs false
set_option linter.unusedVariables false

/-- the row so far: the steps below v by their order's number -/
def ByOk (p : List Nat) (n v : Nat) (l : List Int) : Prop := l.length = n ∧ ∀ u, u < v → at0 l (ordOf p u - 1) = (u : Int)
theorem ByOk.step {p : List Nat} {n v k : Nat} {l : List Int} (hm : ∀ u, u ∈ p ↔ u < n) (h : ByOk p n v l) (hv : v < n) (hk : ordOf p v = k + 1) (hkn : k < n) : ByOk p n (v + 1) (l.set k (v : Int)) := by
  refine ⟨by simpa using h.1, fun u hu => ?_⟩
  have hl := h.1
  by_cases e : u = v
  · subst e
    rw [hk]
    exact at0_set_self (by omega)
  · rw [at0_set_other]
    · exact h.2 u (by omega)
    · intro e2
      have h1 := ordOf_pos.2 ((hm u).2 (by omega))
      exact e (ordOf_inj ((hm u).2 (by omega)) (by omega))
theorem ByOk.done {p : List Nat} {n : Nat} {l : List Int} (hn : p.Nodup) (hm : ∀ u, u ∈ p ↔ u < n) (h : ByOk p n n l) : l = fl n (nd0 p) := by
  have hp := len_of_mem hn hm
  apply at0_ext (by rw [h.1, fl_length])
  intro k hk
  rw [h.1] at hk
  rw [at0_fl _ hk]
  have := h.2 (nd0 p k) ((hm _).1 (nd0_mem (by omega)))
  rw [ordOf_nd0 hn (by omega)] at this
  simpa using this
theorem ord_split {p : List Nat} {n v : Nat} (hn : p.Nodup) (hm : ∀ u, u ∈ p ↔ u < n) (hv : v < n) : ∃ k, ordOf p v = k + 1 ∧ k < n := by
  have h1 := ordOf_pos.2 ((hm v).2 hv)
  have h2 := ordOf_le (p := p) (v := v)
  have h3 := len_of_mem hn hm
  exact ⟨ordOf p v - 1, by omega, by omega⟩

set_option maxRecDepth 100000 in
set_option maxHeartbeats 2000000 in
theorem byLoop (B bs bp bq : Nat) (w4 w : World) (d : List (List Int)) (pre fin : List Nat) (l7 l8 : List Int) {Q : Exit → Act → World → Prop} {x0 x1 x2 x3 x6 x10 x11 x12 x13 x14 x15 x16 x17 x18 x19 x20 x21 x22 x23 x24 x25 x26 x27 x28 x29 x30 x31 x32 x33 x34 x35 x36 x37 x38 x39 x40 x41 x42 x43 x44 x45 x46 x47 x48 x49 x50 x51 x52 x53 x54 x55 x56 x57 x58 x59 x60 x61 x62 x63 x64 x65 x66 x67 x68 x69 x70 x71 x72 x73 x74 x75 x76 x77 x78 x79 x80 x81 x82 x83 x84 x85 x86 x87 x88 x89 x90 x91 x92 x93 x94 x95 x96 x97 x98 x99 x100 x101 x102 x103 x104 x105 x106 x107 x108 x109 x110 x111 x112 x113 x114 x115 x116 x117 x118 x119 x120 x121 x122 x123 x124 x125 x126 x127 x128 x129 x130 x131 x132 x133 x134 x135 x136 x137 x138 x139 x140 x141 x142 x143 x144 x145 x146 x147 x148 x149 x150 x151 x152 x153 x154 x155 x156 x157 x158 x159 x160 x161 x162 x163 x164 x165 x166 x167 x168 x169 x170 x171 x172 x173 x174 x175 x176 x177 x178 x179 x180 x181 x182 x183 x184 x185 x186 x187 x188 x189 x190 x191 x192 x193 x194 x195 x196 x197 x198 x199 x200 x201 x202 x203 x204 x205 x206 x207 x208 x209 x210 x211 x212 x213 x214 x215 x216 x217 x218 x219 x220 x221 x222 x223 x224 x225 x226 x227 x228 x229 x230 x231 x232 x233 x234 x235 x236 x237 x238 x239 x240 x241 x242 x243 x244 x245 x246 x247 x248 x249 x250 x251 x252 x253 x254 x255 x256 x257 x258 x259 x260 x261 x262 x263 x264 x265 x266 x267 x268 x269 x270 x271 x272 x273 x274 x275 x276 x277 x278 x279 x280 x281 x282 x283 x284 x285 x286 x287 x288 x289 x290 x291 x292 x293 x294 x295 x296 x297 x298 x299 x300 x301 x302 x303 x304 x305 x306 x307 x308 x309 x310 : Value}
    (hn : d.length ≤ 65536) (hbs : bs < B) (hbp : bp < B) (hbq : bq < B) (hm : VM d.length bs bp bq pre fin w4) (pnd : pre.Nodup) (pm : ∀ u, u ∈ pre ↔ u < d.length) (fnd : fin.Nodup) (fm : ∀ u, u ∈ fin ↔ u < d.length)
    (hbl : Below B w4 w) (r7 : IRow w B d.length l7) (r8 : IRow w (B + 1) d.length l8) (e7 : l7.length = d.length) (e8 : l8.length = d.length)
    (hQ : ∀ (y9 y76 y77 y78 y79 y80 y81 y82 y83 y84 y85 y86 y87 y88 y89 y90 y91 y92 y93 y94 y95 y96 y97 y98 : Value) (w1 : World), Below B w4 w1 → IRow w1 B d.length (fl d.length (nd0 pre)) → IRow w1 (B + 1) d.length (fl d.length (nd0 fin)) → Q (.exit 2) ⟨List.toArray (x0 :: x1 :: x2 :: x3 :: .int .i64 (d.length : Int) :: .pointer (some ⟨bs, 0, none⟩) :: x6 :: .slice (some ⟨B, 0, none⟩) d.length d.length :: .slice (some ⟨B + 1, 0, none⟩) d.length d.length :: y9 :: x10 :: x11 :: x12 :: x13 :: x14 :: x15 :: x16 :: x17 :: x18 :: x19 :: x20 :: x21 :: x22 :: x23 :: x24 :: x25 :: x26 :: x27 :: x28 :: x29 :: x30 :: x31 :: x32 :: x33 :: x34 :: x35 :: x36 :: x37 :: x38 :: x39 :: x40 :: x41 :: x42 :: x43 :: x44 :: x45 :: x46 :: x47 :: x48 :: x49 :: x50 :: x51 :: x52 :: x53 :: x54 :: x55 :: x56 :: x57 :: x58 :: x59 :: x60 :: x61 :: x62 :: x63 :: x64 :: x65 :: x66 :: x67 :: x68 :: x69 :: x70 :: x71 :: x72 :: x73 :: x74 :: x75 :: y76 :: y77 :: y78 :: y79 :: y80 :: y81 :: y82 :: y83 :: y84 :: y85 :: y86 :: y87 :: y88 :: y89 :: y90 :: y91 :: y92 :: y93 :: y94 :: y95 :: y96 :: y97 :: y98 :: x99 :: x100 :: x101 :: x102 :: x103 :: x104 :: x105 :: x106 :: x107 :: x108 :: x109 :: x110 :: x111 :: x112 :: x113 :: x114 :: x115 :: x116 :: x117 :: x118 :: x119 :: x120 :: x121 :: x122 :: x123 :: x124 :: x125 :: x126 :: x127 :: x128 :: x129 :: x130 :: x131 :: x132 :: x133 :: x134 :: x135 :: x136 :: x137 :: x138 :: x139 :: x140 :: x141 :: x142 :: x143 :: x144 :: x145 :: x146 :: x147 :: x148 :: x149 :: x150 :: x151 :: x152 :: x153 :: x154 :: x155 :: x156 :: x157 :: x158 :: x159 :: x160 :: x161 :: x162 :: x163 :: x164 :: x165 :: x166 :: x167 :: x168 :: x169 :: x170 :: x171 :: x172 :: x173 :: x174 :: x175 :: x176 :: x177 :: x178 :: x179 :: x180 :: x181 :: x182 :: x183 :: x184 :: x185 :: x186 :: x187 :: x188 :: x189 :: x190 :: x191 :: x192 :: x193 :: x194 :: x195 :: x196 :: x197 :: x198 :: x199 :: x200 :: x201 :: x202 :: x203 :: x204 :: x205 :: x206 :: x207 :: x208 :: x209 :: x210 :: x211 :: x212 :: x213 :: x214 :: x215 :: x216 :: x217 :: x218 :: x219 :: x220 :: x221 :: x222 :: x223 :: x224 :: x225 :: x226 :: x227 :: x228 :: x229 :: x230 :: x231 :: x232 :: x233 :: x234 :: x235 :: x236 :: x237 :: x238 :: x239 :: x240 :: x241 :: x242 :: x243 :: x244 :: x245 :: x246 :: x247 :: x248 :: x249 :: x250 :: x251 :: x252 :: x253 :: x254 :: x255 :: x256 :: x257 :: x258 :: x259 :: x260 :: x261 :: x262 :: x263 :: x264 :: x265 :: x266 :: x267 :: x268 :: x269 :: x270 :: x271 :: x272 :: x273 :: x274 :: x275 :: x276 :: x277 :: x278 :: x279 :: x280 :: x281 :: x282 :: x283 :: x284 :: x285 :: x286 :: x287 :: x288 :: x289 :: x290 :: x291 :: x292 :: x293 :: x294 :: x295 :: x296 :: x297 :: x298 :: x299 :: x300 :: x301 :: x302 :: x303 :: x304 :: x305 :: x306 :: x307 :: x308 :: x309 :: x310 :: ([] : List Value)), []⟩ w1) :
    Code.wp Try.prog (.loop (lp (bodyOf Try.f3) 1)) Q ⟨List.toArray (x0 :: x1 :: x2 :: x3 :: .int .i64 (d.length : Int) :: .pointer (some ⟨bs, 0, none⟩) :: x6 :: .slice (some ⟨B, 0, none⟩) d.length d.length :: .slice (some ⟨B + 1, 0, none⟩) d.length d.length :: .int .i64 0 :: x10 :: x11 :: x12 :: x13 :: x14 :: x15 :: x16 :: x17 :: x18 :: x19 :: x20 :: x21 :: x22 :: x23 :: x24 :: x25 :: x26 :: x27 :: x28 :: x29 :: x30 :: x31 :: x32 :: x33 :: x34 :: x35 :: x36 :: x37 :: x38 :: x39 :: x40 :: x41 :: x42 :: x43 :: x44 :: x45 :: x46 :: x47 :: x48 :: x49 :: x50 :: x51 :: x52 :: x53 :: x54 :: x55 :: x56 :: x57 :: x58 :: x59 :: x60 :: x61 :: x62 :: x63 :: x64 :: x65 :: x66 :: x67 :: x68 :: x69 :: x70 :: x71 :: x72 :: x73 :: x74 :: x75 :: x76 :: x77 :: x78 :: x79 :: x80 :: x81 :: x82 :: x83 :: x84 :: x85 :: x86 :: x87 :: x88 :: x89 :: x90 :: x91 :: x92 :: x93 :: x94 :: x95 :: x96 :: x97 :: x98 :: x99 :: x100 :: x101 :: x102 :: x103 :: x104 :: x105 :: x106 :: x107 :: x108 :: x109 :: x110 :: x111 :: x112 :: x113 :: x114 :: x115 :: x116 :: x117 :: x118 :: x119 :: x120 :: x121 :: x122 :: x123 :: x124 :: x125 :: x126 :: x127 :: x128 :: x129 :: x130 :: x131 :: x132 :: x133 :: x134 :: x135 :: x136 :: x137 :: x138 :: x139 :: x140 :: x141 :: x142 :: x143 :: x144 :: x145 :: x146 :: x147 :: x148 :: x149 :: x150 :: x151 :: x152 :: x153 :: x154 :: x155 :: x156 :: x157 :: x158 :: x159 :: x160 :: x161 :: x162 :: x163 :: x164 :: x165 :: x166 :: x167 :: x168 :: x169 :: x170 :: x171 :: x172 :: x173 :: x174 :: x175 :: x176 :: x177 :: x178 :: x179 :: x180 :: x181 :: x182 :: x183 :: x184 :: x185 :: x186 :: x187 :: x188 :: x189 :: x190 :: x191 :: x192 :: x193 :: x194 :: x195 :: x196 :: x197 :: x198 :: x199 :: x200 :: x201 :: x202 :: x203 :: x204 :: x205 :: x206 :: x207 :: x208 :: x209 :: x210 :: x211 :: x212 :: x213 :: x214 :: x215 :: x216 :: x217 :: x218 :: x219 :: x220 :: x221 :: x222 :: x223 :: x224 :: x225 :: x226 :: x227 :: x228 :: x229 :: x230 :: x231 :: x232 :: x233 :: x234 :: x235 :: x236 :: x237 :: x238 :: x239 :: x240 :: x241 :: x242 :: x243 :: x244 :: x245 :: x246 :: x247 :: x248 :: x249 :: x250 :: x251 :: x252 :: x253 :: x254 :: x255 :: x256 :: x257 :: x258 :: x259 :: x260 :: x261 :: x262 :: x263 :: x264 :: x265 :: x266 :: x267 :: x268 :: x269 :: x270 :: x271 :: x272 :: x273 :: x274 :: x275 :: x276 :: x277 :: x278 :: x279 :: x280 :: x281 :: x282 :: x283 :: x284 :: x285 :: x286 :: x287 :: x288 :: x289 :: x290 :: x291 :: x292 :: x293 :: x294 :: x295 :: x296 :: x297 :: x298 :: x299 :: x300 :: x301 :: x302 :: x303 :: x304 :: x305 :: x306 :: x307 :: x308 :: x309 :: x310 :: ([] : List Value)), []⟩ w := by
  conv => arg 2; arg 1; whnf
  have HM : Hid _ := hm
  have HP1 : Hid _ := pnd
  have HP2 : Hid _ := pm
  have HF1 : Hid _ := fnd
  have HF2 : Hid _ := fm
  clear hm pnd pm fnd fm
  go_loopw [9] (fun vv wr => ∃ (v : Nat) (l7 l8 : List Int), v ≤ d.length ∧ vv = .int .i64 (v : Int) ∧ Below B w4 wr ∧ IRow wr B d.length l7 ∧ IRow wr (B + 1) d.length l8 ∧ ByOk pre d.length v l7 ∧ ByOk fin d.length v l8) (fun vv _ => d.length - (intOf vv).toNat)
  case atStart => exact ⟨0, l7, l8, Nat.zero_le _, rfl, hbl, r7, r8, ⟨e7, fun u hu => by omega⟩, ⟨e8, fun u hu => by omega⟩⟩
  case round =>
    clear hbl r7 r8 e7 e8
    obtain ⟨v, m7, m8, hv1, rfl, hbl, r7, r8, o7, o8⟩ := hrel
    have H7 : Hid _ := r7
    have H8 : Hid _ := r8
    have O7 : Hid _ := o7
    have O8 : Hid _ := o8
    have HB : Hid _ := hbl
    by_cases hlt : v < d.length
    · obtain ⟨k, hk, hkn⟩ := ord_split HP1.out HP2.out hlt
      obtain ⟨j, hj, hjn⟩ := ord_split HF1.out HF2.out hlt
      have c0 := (hbl.cell (p := ⟨bs, 0, none⟩) (by exact hbs)).trans HM.out.c0
      have c1 := (hbl.cell (p := ⟨bs, 1, none⟩) (by exact hbs)).trans HM.out.c1
      have q0 := (HM.out.rp.below hbl hbp).cell (j := v) (by rw [fl_length]; exact hlt)
      rw [at0_fl _ hlt, hk] at q0
      have q1 := (HM.out.rq.below hbl hbq).cell (j := v) (by rw [fl_length]; exact hlt)
      rw [at0_fl _ hlt, hj] at q1
      have s7 := r7.cell (j := k) (by rw [o7.1]; exact hkn)
      have f7 := r7.frozen k
      have s8 := r8.cell (j := j) (by rw [o8.1]; exact hjn)
      have f8 := r8.frozen j
      have ne1 : bs ≠ B := by omega
      have ne2 : bq ≠ B := by omega
      have HK : Hid _ := hk
      have HJ : Hid _ := hj
      have k0 : (0 : Int) ≤ (k : Int) := by omega
      have k1 : (k : Int) < (d.length : Int) := by omega
      have j0 : (0 : Int) ≤ (j : Int) := by omega
      have j1 : (j : Int) < (d.length : Int) := by omega
      have ek : ((k + 1 : Nat) : Int) - 1 = (k : Int) := by omega
      have ej : ((j + 1 : Nat) : Int) - 1 = (j : Int) := by omega
      clear hbl r7 r8 o7 o8 hk hj
      go_wp2
      go_roundw
      case rel => exact ⟨v + 1, _, _, hlt, by go_num, (HB.out.setCell (Nat.le_refl _) _).setCell (by show B ≤ B + 1; omega) _, IRow.other (IRow.set H7.out k _) (by show B + 1 ≠ B; omega) _, IRow.set (IRow.other H8.out (by show B ≠ B + 1; omega) _) j _, ByOk.step HP2.out O7.out hlt HK.out hkn, ByOk.step HF2.out O8.out hlt HJ.out hjn⟩
      case measure => simp [intOf]; omega
    · have hv' : v = d.length := by omega
      subst hv'
      clear hbl r7 r8 o7 o8
      have E7 := ByOk.done HP1.out HP2.out O7.out
      have E8 := ByOk.done HF1.out HF2.out O8.out
      subst E7
      subst E8
      go_wp2
      apply hQ
      · exact HB.out
      · exact H7.out
      · exact H8.out

end Go.Proofs.Qxb6603026a
