/-
  FnGroupsMatchKosarajuModel (function 3): one of its loops.
-/
import Derived.Test.Qxb6603026aK5
import Derived.Test.Qxb6603026aKosVisit
import Derived.Test.Qxb6603026aKosPure
import Derived.Test.Qxb6603026aPred
import Derived.Test.Qxb6603026aGRel
import Derived.Deep.QuietTactic
import Derived.BigQuiet
import Derived.BigRegion
import Derived.Outline
namespace Go.Proofs.Qxb6603026a
open Go.RowKit
set_option linter.unusedSimpArgs false
set_option linter.unusedVariables false

theorem KB.first {B n : Nat} {w4 w w3 : World} {gs : List (List Nat)} {i : Nat} {c : List Nat} {f gq gq' cap' : Nat} {z : Int} {ob : Obj}
    (hbl : Below B w4 w) (hsz : B + 1 ≤ w.heap.size) (hm : IRow w B n (fz n (compF gs (i + 1)))) (hlow : B + 1 ≤ gq) (hc : f ∈ c) (hz : z = ((gs.length - (i + 1) : Nat) : Int))
    (ho : w3.ownsRow (B + 1) 3 1 (.slice (some ⟨gq', 0, none⟩) (0 + 1) cap') (0 + 1) (ints (ns []) ++ [.int .i64 (f : Int)])) (hg : ((w.setCell ⟨B, f, none⟩ (.int .i64 z)).alloc ob).grownBy w3 (some gq)) :
    KB B n w4 gs i c f gq' cap' [f] w3 := by
  refine ⟨?_, ?_, ?_, ?_, ?_, by simp, by simpa using hc, by simp⟩
  · exact ((hbl.setCell (Nat.le_refl _) _).alloc (by simp; omega) ob).grown hg (by simp; omega) (fun k hk => by cases hk; omega)
  · have := hg.size; simp at this; omega
  · have := ((hm.set f z).alloc ob).grown hg (by simp; omega)
    rwa [comp_first hz] at this
  · have e : ints (ns [f]) = ints (ns []) ++ [.int .i64 (f : Int)] := by simp [ns, ints]
    show Row _ 3 1 gq' 1 cap' _
    rw [e]; exact Row.of_owns ho
  · exact (World.ownsRow.lt ho gq' rfl).1

/-- between two steps of the second pass -/
structure KP (B n : Nat) (w4 : World) (gs : List (List Nat)) (fin : List Nat) (P m gq cap : Nat) (q : List Nat) (w : World) : Prop where
  mok : MOk gs fin P m
  blw : Below B w4 w
  siz : B + 1 ≤ w.heap.size
  mrk : IRow w B n (fz n (compF gs m))
  row : Row w 3 1 gq q.length cap (ints (ns q))
  low : B + 1 ≤ gq
def KPRel (B : Nat) (d : List (List Int)) (w4 : World) (gs : List (List Nat)) (fin : List Nat) (qv cv pv : Value) (w : World) : Prop :=
  ∃ (P m gq cap : Nat) (q : List Nat) (z cz : Int), P ≤ d.length ∧ z = (P : Int) - 1 ∧ pv = .int .i64 z ∧ cz = ((gs.length - m : Nat) : Int) ∧ cv = .int .i64 cz ∧ qv = .slice (some ⟨gq, 0, none⟩) q.length cap ∧ KP B d.length w4 gs fin P m gq cap q w

set_option maxRecDepth 100000 in
set_option maxHeartbeats 2000000 in
theorem kosLoop (B : Nat) (w4 w : World) (d : List (List Int)) (gs : List (List Nat)) (pre fin : List Nat) (sv pv v8 : Value) (st pr : List Int) (gq cap : Nat) {Q : Exit → Act → World → Prop} {x0 x1 x2 x3 x4 x5 x6 x7 x9 x13 x17 x18 x19 x20 x21 x22 x23 x24 x25 x26 x27 x28 x29 x30 x31 x32 x33 x34 x35 x36 x37 x38 x39 x40 x41 x42 x43 x44 x45 x46 x47 x48 x49 x50 x51 x52 x53 x54 x55 x56 x57 x58 x59 x60 x61 x62 x63 x64 x65 x66 x67 x68 x69 x70 x71 x72 x73 x74 x75 x76 x77 x78 x79 x80 x81 x82 x83 x84 x85 x86 x87 x88 x89 x90 x91 x92 x93 x94 x95 x96 x97 x98 x99 x100 x101 x102 x103 x104 x105 x106 x107 x108 x109 x110 x111 x112 x113 x114 x115 x116 x117 x118 x119 x120 x121 x122 x123 x124 x125 x126 x127 x128 x129 x130 x131 x132 x133 x134 x135 x136 x137 x138 x139 x140 x141 x142 x143 x144 x145 x146 x147 x148 x149 x150 x151 x152 x153 x154 x155 x156 x157 x158 x159 x160 x161 x162 x163 x164 x165 x166 x167 x168 x169 x170 x171 x172 x173 x174 x175 x176 x177 x178 x179 x180 x181 x182 x183 x184 x185 x186 x187 x188 x189 x190 x191 x192 x193 x194 x195 x196 x197 x198 x199 x200 x201 x202 x203 x204 x205 x206 x207 x208 x209 x210 x211 x212 x213 x214 x215 x216 x217 x218 x219 x220 x221 x222 x223 x224 x225 x226 x227 x228 x229 x230 x231 x232 x233 x234 x235 x236 x237 x238 x239 x240 x241 x242 x243 x244 x245 x246 x247 x248 x249 x250 x251 x252 x253 x254 x255 x256 x257 x258 x259 x260 x261 x262 x263 x264 x265 x266 x267 x268 x269 x270 x271 x272 x273 x274 x275 x276 x277 x278 x279 x280 x281 x282 x283 x284 x285 x286 x287 x288 x289 x290 x291 x292 x293 x294 x295 x296 x297 x298 x299 x300 x301 x302 x303 x304 x305 x306 x307 x308 x309 x310 : Value}
    (hn : d.length ≤ 65536) (hw : wordsOf d ≤ 131072) (hr : InRange d) (hk : KS (grOf d) gs pre fin) (hgl : gs.length ≤ d.length) (h8 : IntsAt B w4 v8 (fl d.length (nd0 fin))) (hsv : IntsAt B w4 sv st) (hpv : IntsAt B w4 pv pr) (hps : PredSpec (grOf d) st pr)
    (hp : KP B d.length w4 gs fin d.length gs.length gq cap [] w)
    (hQ : ∀ (y14 y16 y17 y18 y19 y20 y21 y118 y119 y120 y121 y122 y123 y124 y125 y126 y127 y128 y129 y130 y131 y132 y133 y134 y135 y136 y137 y138 y139 y140 y141 y142 y143 y144 y145 y146 y147 y148 y149 y150 y151 y152 y153 y154 y155 y156 y157 y158 y159 y160 y161 y162 y163 y164 y165 y166 y167 y168 y169 y170 y171 y172 y173 y174 y175 y176 y177 y178 y179 y180 y181 y182 : Value) (w1 : World), Below B w4 w1 → IRow w1 B d.length (fl d.length (Kf gs)) → Q (.exit 6) ⟨List.toArray (x0 :: x1 :: x2 :: x3 :: x4 :: x5 :: x6 :: x7 :: v8 :: x9 :: sv :: pv :: .slice (some ⟨B, 0, none⟩) d.length d.length :: x13 :: y14 :: .int .i64 (gs.length : Int) :: y16 :: y17 :: y18 :: y19 :: y20 :: y21 :: x22 :: x23 :: x24 :: x25 :: x26 :: x27 :: x28 :: x29 :: x30 :: x31 :: x32 :: x33 :: x34 :: x35 :: x36 :: x37 :: x38 :: x39 :: x40 :: x41 :: x42 :: x43 :: x44 :: x45 :: x46 :: x47 :: x48 :: x49 :: x50 :: x51 :: x52 :: x53 :: x54 :: x55 :: x56 :: x57 :: x58 :: x59 :: x60 :: x61 :: x62 :: x63 :: x64 :: x65 :: x66 :: x67 :: x68 :: x69 :: x70 :: x71 :: x72 :: x73 :: x74 :: x75 :: x76 :: x77 :: x78 :: x79 :: x80 :: x81 :: x82 :: x83 :: x84 :: x85 :: x86 :: x87 :: x88 :: x89 :: x90 :: x91 :: x92 :: x93 :: x94 :: x95 :: x96 :: x97 :: x98 :: x99 :: x100 :: x101 :: x102 :: x103 :: x104 :: x105 :: x106 :: x107 :: x108 :: x109 :: x110 :: x111 :: x112 :: x113 :: x114 :: x115 :: x116 :: x117 :: y118 :: y119 :: y120 :: y121 :: y122 :: y123 :: y124 :: y125 :: y126 :: y127 :: y128 :: y129 :: y130 :: y131 :: y132 :: y133 :: y134 :: y135 :: y136 :: y137 :: y138 :: y139 :: y140 :: y141 :: y142 :: y143 :: y144 :: y145 :: y146 :: y147 :: y148 :: y149 :: y150 :: y151 :: y152 :: y153 :: y154 :: y155 :: y156 :: y157 :: y158 :: y159 :: y160 :: y161 :: y162 :: y163 :: y164 :: y165 :: y166 :: y167 :: y168 :: y169 :: y170 :: y171 :: y172 :: y173 :: y174 :: y175 :: y176 :: y177 :: y178 :: y179 :: y180 :: y181 :: y182 :: x183 :: x184 :: x185 :: x186 :: x187 :: x188 :: x189 :: x190 :: x191 :: x192 :: x193 :: x194 :: x195 :: x196 :: x197 :: x198 :: x199 :: x200 :: x201 :: x202 :: x203 :: x204 :: x205 :: x206 :: x207 :: x208 :: x209 :: x210 :: x211 :: x212 :: x213 :: x214 :: x215 :: x216 :: x217 :: x218 :: x219 :: x220 :: x221 :: x222 :: x223 :: x224 :: x225 :: x226 :: x227 :: x228 :: x229 :: x230 :: x231 :: x232 :: x233 :: x234 :: x235 :: x236 :: x237 :: x238 :: x239 :: x240 :: x241 :: x242 :: x243 :: x244 :: x245 :: x246 :: x247 :: x248 :: x249 :: x250 :: x251 :: x252 :: x253 :: x254 :: x255 :: x256 :: x257 :: x258 :: x259 :: x260 :: x261 :: x262 :: x263 :: x264 :: x265 :: x266 :: x267 :: x268 :: x269 :: x270 :: x271 :: x272 :: x273 :: x274 :: x275 :: x276 :: x277 :: x278 :: x279 :: x280 :: x281 :: x282 :: x283 :: x284 :: x285 :: x286 :: x287 :: x288 :: x289 :: x290 :: x291 :: x292 :: x293 :: x294 :: x295 :: x296 :: x297 :: x298 :: x299 :: x300 :: x301 :: x302 :: x303 :: x304 :: x305 :: x306 :: x307 :: x308 :: x309 :: x310 :: ([] : List Value)), []⟩ w1) :
    Code.wp Try.prog (.loop (lp (bodyOf Try.f3) 3)) Q ⟨List.toArray (x0 :: x1 :: x2 :: x3 :: x4 :: x5 :: x6 :: x7 :: v8 :: x9 :: sv :: pv :: .slice (some ⟨B, 0, none⟩) d.length d.length :: x13 :: .slice (some ⟨gq, 0, none⟩) 0 cap :: .int .i64 0 :: .int .i64 ((d.length : Int) - 1) :: x17 :: x18 :: x19 :: x20 :: x21 :: x22 :: x23 :: x24 :: x25 :: x26 :: x27 :: x28 :: x29 :: x30 :: x31 :: x32 :: x33 :: x34 :: x35 :: x36 :: x37 :: x38 :: x39 :: x40 :: x41 :: x42 :: x43 :: x44 :: x45 :: x46 :: x47 :: x48 :: x49 :: x50 :: x51 :: x52 :: x53 :: x54 :: x55 :: x56 :: x57 :: x58 :: x59 :: x60 :: x61 :: x62 :: x63 :: x64 :: x65 :: x66 :: x67 :: x68 :: x69 :: x70 :: x71 :: x72 :: x73 :: x74 :: x75 :: x76 :: x77 :: x78 :: x79 :: x80 :: x81 :: x82 :: x83 :: x84 :: x85 :: x86 :: x87 :: x88 :: x89 :: x90 :: x91 :: x92 :: x93 :: x94 :: x95 :: x96 :: x97 :: x98 :: x99 :: x100 :: x101 :: x102 :: x103 :: x104 :: x105 :: x106 :: x107 :: x108 :: x109 :: x110 :: x111 :: x112 :: x113 :: x114 :: x115 :: x116 :: x117 :: x118 :: x119 :: x120 :: x121 :: x122 :: x123 :: x124 :: x125 :: x126 :: x127 :: x128 :: x129 :: x130 :: x131 :: x132 :: x133 :: x134 :: x135 :: x136 :: x137 :: x138 :: x139 :: x140 :: x141 :: x142 :: x143 :: x144 :: x145 :: x146 :: x147 :: x148 :: x149 :: x150 :: x151 :: x152 :: x153 :: x154 :: x155 :: x156 :: x157 :: x158 :: x159 :: x160 :: x161 :: x162 :: x163 :: x164 :: x165 :: x166 :: x167 :: x168 :: x169 :: x170 :: x171 :: x172 :: x173 :: x174 :: x175 :: x176 :: x177 :: x178 :: x179 :: x180 :: x181 :: x182 :: x183 :: x184 :: x185 :: x186 :: x187 :: x188 :: x189 :: x190 :: x191 :: x192 :: x193 :: x194 :: x195 :: x196 :: x197 :: x198 :: x199 :: x200 :: x201 :: x202 :: x203 :: x204 :: x205 :: x206 :: x207 :: x208 :: x209 :: x210 :: x211 :: x212 :: x213 :: x214 :: x215 :: x216 :: x217 :: x218 :: x219 :: x220 :: x221 :: x222 :: x223 :: x224 :: x225 :: x226 :: x227 :: x228 :: x229 :: x230 :: x231 :: x232 :: x233 :: x234 :: x235 :: x236 :: x237 :: x238 :: x239 :: x240 :: x241 :: x242 :: x243 :: x244 :: x245 :: x246 :: x247 :: x248 :: x249 :: x250 :: x251 :: x252 :: x253 :: x254 :: x255 :: x256 :: x257 :: x258 :: x259 :: x260 :: x261 :: x262 :: x263 :: x264 :: x265 :: x266 :: x267 :: x268 :: x269 :: x270 :: x271 :: x272 :: x273 :: x274 :: x275 :: x276 :: x277 :: x278 :: x279 :: x280 :: x281 :: x282 :: x283 :: x284 :: x285 :: x286 :: x287 :: x288 :: x289 :: x290 :: x291 :: x292 :: x293 :: x294 :: x295 :: x296 :: x297 :: x298 :: x299 :: x300 :: x301 :: x302 :: x303 :: x304 :: x305 :: x306 :: x307 :: x308 :: x309 :: x310 :: ([] : List Value)), []⟩ w := by
  conv => arg 2; arg 1; whnf
  obtain ⟨a8, b8, o8, c8, rfl, hm8, ha8, hc8⟩ := h8
  rw [fl_length] at hm8 ha8
  simp only [fl_length] at hc8 hQ
  rw [fl_length]
  have HW : Hid _ := hw
  have HR : Hid _ := hr
  have HK : Hid _ := hk
  have HSV : Hid _ := hsv
  have HPV : Hid _ := hpv
  have HPS : Hid _ := hps
  have HP0 : Hid _ := hp
  clear hw hr hk hsv hpv hps hp
  go_loopw [14, 15, 16] (fun qv cv pv w => KPRel B d w4 gs fin qv cv pv w) (fun _ _ pv _ => ((intOf pv) + 1).toNat)
  case atStart => exact ⟨d.length, gs.length, gq, cap, [], _, _, Nat.le_refl _, rfl, rfl, rfl, by simp, rfl, HP0.out⟩
  case round =>
    clear HP0
    obtain ⟨P, m, gq1, cap1, q, z, cz, hP, hz, rfl, hcz, rfl, rfl, hp⟩ := hrel
    have HP : Hid _ := hp
    have hrc := hp.row.cap_le
    have hml := hp.mok.1
    clear hp
    by_cases hP0 : 0 < P
    · obtain ⟨p, rfl⟩ : ∃ p, P = p + 1 := ⟨P - 1, by omega⟩
      obtain rfl : z = (p : Int) := by omega
      clear hz
      have hpn : p < d.length := by omega
      obtain ⟨v, hv⟩ : ∃ v, v = nd0 fin p := ⟨_, rfl⟩
      have HV : Hid _ := hv
      have hvn : v < d.length := by rw [hv]; exact (HK.out.at hpn).1
      obtain ⟨hp8, hb8⟩ := ha8 (by omega)
      cases hp8
      have hc := (HP.out.blw.cell (p := ⟨b8, o8 + p, none⟩) (by exact hb8)).trans (hc8 p hpn)
      rw [at0_fl _ hpn, ← hv] at hc
      have hcv := HP.out.mrk.cell (j := v) (by rw [fz_length]; exact hvn)
      rw [at0_fz _ hvn] at hcv
      have hcf := HP.out.mrk.frozen v
      have v0 : (0 : Int) ≤ (v : Int) := by omega
      have v1 : (v : Int) < (d.length : Int) := by omega
      clear hc8 ha8 hv
      by_cases hpl : m ≤ whr gs v
      · have e : compF gs m v = ((Kf gs v : Nat) : Int) := by unfold compF; rw [if_pos hpl]
        rw [e] at hcv
        have hsk : Hid (MOk gs fin p m) := MOk.skip HK.out hpn HP.out.mok (by rw [← HV.out]; exact hpl)
        clear e hpl
        go_wp2
        go_roundw
        case rel => exact ⟨p, m, gq1, cap1, q, _, _, by omega, rfl, rfl, hcz, rfl, rfl, ⟨hsk.out, HP.out.blw, HP.out.siz, HP.out.mrk, HP.out.row, HP.out.low⟩⟩
        case measure => simp [intOf]
      · have e : compF gs m v = -1 := by unfold compF; rw [if_neg hpl]
        rw [e] at hcv
        have htk := MOk.take HK.out hpn HP.out.mok (by rw [← HV.out]; exact hpl)
        rw [← HV.out] at htk
        obtain ⟨hmi, hmo⟩ := htk
        have HMO : Hid _ := hmo
        obtain ⟨c, hcg, hvc⟩ := HK.out.scc.whr_mem hvn
        have hil := HK.out.scc.whr_lt hvn
        have HCG : Hid _ := hcg
        have HVC : Hid _ := hvc
        obtain ⟨i, hi⟩ : ∃ i, i = whr gs v := ⟨_, rfl⟩
        rw [← hi] at hmi hil
        have HI : Hid _ := hi
        subst hmi
        have hgi : i < gs.length := hil
        obtain ⟨i3, p1, p2, p3, p4⟩ := info_parts Try.info3
        subst hcz
        clear e hpl hmo hcg hvc hi
        go_wp2_with (at_builtin; refine wpList_append_lies _ rfl (.tmp 137) (.tmp 139) 26 rfl (B + 1) 3 i3 (.int .i64 0) 1 8 Try.underlying26 p1 p2 p3 p4 rfl (by omega) (.slice (some ⟨gq1, 0, none⟩) 0 cap1) 0 (ints (ns [])) rfl ((((HP.out.row.take (m := 0) (Nat.zero_le _)).owns HP.out.low).kept (World.ownsRow.stored HP.out.mrk v _).2 (.inr (by simp [Value.ownBlock]; have := HP.out.low; omega))).alloc _) ⟨wr.heap.size, 0, none⟩ 1 1 [.int .i64 (v : Int)] rfl rfl (news_one (by simp) _ _) (oneCell_int _) (by omega) (by unfold maxLen; omega) (by omega) (by simp; have := HP.out.siz; omega) (wr.heap.size + 1) (by simp) ?_)
        intro g5 cap5 w5 ho5 hg5 hat5 hlt5
        have R := KB.first (c := c) (z := ((gs.length - (i + 1) : Nat) : Int)) HP.out.blw HP.out.siz HP.out.mrk HP.out.low HVC.out rfl ho5 hg5
        have HB5 : Hid _ := R
        clear R ho5 hg5 hat5 hlt5 hcv hcf hc HP
        go_wp2_with fail
        refine kosBfs B w4 _ d gs sv pv st pr i c v g5 cap5 hn HW.out HK.out.scc (by rw [HI.out]; exact HCG.out) HSV.out HPV.out HPS.out HB5.out ?_
        intros
        rename_i gq6 cap6 q6 w6 hb6 hcl6
        have hfull := kos_full HK.out.scc (grOf_ok HR.out) HPS.out (i := i) (by rw [HI.out]; exact HCG.out) hb6.sub hb6.has hcl6
        have hmk := hb6.mrk
        have hcomp : fz d.length (compQ gs (i + 1) q6) = fz d.length (compF gs i) := comp_full HK.out.scc (by rw [HI.out]; exact HCG.out) hfull
        rw [hcomp] at hmk
        have HMK : Hid _ := hmk
        have H6 : Hid _ := hb6
        have hcs : ((gs.length - (i + 1) : Nat) : Int) + 1 = ((gs.length - i : Nat) : Int) := by omega
        clear hb6 hcl6 hfull hmk hcomp HB5
        go_wp2
        go_roundw
        case rel => exact ⟨p, i, gq6, cap6, q6, _, _, by omega, rfl, rfl, rfl, rfl, rfl, ⟨by rw [HI.out]; exact HMO.out, H6.out.blw, H6.out.siz, HMK.out, H6.out.row, H6.out.low⟩⟩
        case measure => simp [intOf]
    · obtain rfl : P = 0 := by omega
      obtain rfl : z = -1 := by omega
      have hm0 : m = 0 := MOk.zero_eq HK.out HP.out.mok
      subst hm0
      have hmk := HP.out.mrk
      rw [comp_all] at hmk
      have HMK : Hid _ := hmk
      have hcz' : cz = (gs.length : Int) := by rw [hcz]; simp
      subst hcz'
      clear hmk hcz hz
      go_wp2
      apply hQ
      · exact HP.out.blw
      · exact HMK.out

end Go.Proofs.Qxb6603026a
