/-
  FnGroupsAreOrderedStronglyConnectedParts (function 4): one of its loops.
-/
import Derived.Test.Qxb6603026aGroupOf
import Derived.Test.Qxb6603026aPred
import Derived.Deep.QuietTactic
import Derived.BigQuiet
import Derived.BigRegion
import Derived.Outline
namespace Go.Proofs.Qxb6603026a
open Go.RowKit
set_option linter.unusedSimpArgs false
set_option linter.unusedVariables false


set_option maxRecDepth 100000 in
set_option maxHeartbeats 2000000 in
theorem edgeLoop (B : Nat) (w : World) (d : List (List Int)) (gs : List (List Nat)) (ad : Option Addr) (cd : Nat) (whv : Value) {Q : Exit → Act → World → Prop} {x1 x2 x3 x6 x8 x9 x10 x11 x12 x13 x14 x15 x16 x17 x18 x19 x20 x21 x22 x23 x24 x25 x26 x27 x28 x29 x30 x31 x32 x33 x34 x35 x36 x37 x38 x39 x40 x41 x42 x43 x44 x45 x46 x47 x48 x49 x50 x51 x52 x53 x54 x55 x56 x57 x58 x59 x60 x61 x62 x63 x64 x65 x66 x67 x68 x69 x70 x71 x72 x73 x74 x75 x76 x77 x78 x79 x80 x81 x82 x83 x84 x85 x86 x87 x88 x89 x90 x91 x92 x93 x94 x95 x96 x97 x98 x99 x100 x101 x102 x103 x104 x105 x106 x107 x108 x109 x110 x111 x112 x113 x114 x115 x116 x117 x118 x119 x120 x121 x122 x123 x124 x125 x126 x127 x128 x129 x130 x131 x132 x133 x134 x135 x136 x137 x138 x139 x140 x141 x142 x143 x144 x145 x146 x147 x148 x149 x150 x151 x152 x153 x154 x155 x156 x157 x158 x159 x160 x161 x162 x163 x164 x165 x166 x167 x168 x169 x170 x171 x172 x173 x174 x175 x176 x177 x178 x179 x180 x181 x182 x183 x184 x185 x186 x187 x188 x189 x190 x191 x192 x193 x194 x195 x196 x197 x198 x199 x200 x201 x202 x203 x204 x205 x206 x207 x208 x209 x210 x211 x212 x213 x214 x215 x216 x217 x218 x219 x220 x221 x222 x223 x224 x225 x226 x227 x228 x229 x230 x231 x232 x233 : Value}
    (hn : d.length ≤ 65536) (hw : wordsOf d ≤ 131072) (hr : InRange d) (hs : Scc (grOf d) gs) (hd : RowsAt B w (.slice ad d.length cd) d) (hv : IntsAt B w whv (fl d.length (whr gs)))
    (hQ : ∀ (y2 y7 y8 y9 y52 y53 y54 y55 y56 y57 y58 y59 y60 y61 y62 y63 y64 y65 y66 y67 y68 y69 y70 y71 y72 y73 y74 y75 y76 y77 y78 : Value) (q : Nat), Q (.exit 0) ⟨List.toArray (.slice ad d.length cd :: x1 :: y2 :: x3 :: .int .i64 (d.length : Int) :: whv :: x6 :: y7 :: y8 :: y9 :: x10 :: x11 :: x12 :: x13 :: x14 :: x15 :: x16 :: x17 :: x18 :: x19 :: x20 :: x21 :: x22 :: x23 :: x24 :: x25 :: x26 :: x27 :: x28 :: x29 :: x30 :: x31 :: x32 :: x33 :: x34 :: x35 :: x36 :: x37 :: x38 :: x39 :: x40 :: x41 :: x42 :: x43 :: x44 :: x45 :: x46 :: x47 :: x48 :: x49 :: x50 :: x51 :: y52 :: y53 :: y54 :: y55 :: y56 :: y57 :: y58 :: y59 :: y60 :: y61 :: y62 :: y63 :: y64 :: y65 :: y66 :: y67 :: y68 :: y69 :: y70 :: y71 :: y72 :: y73 :: y74 :: y75 :: y76 :: y77 :: y78 :: x79 :: x80 :: x81 :: x82 :: x83 :: x84 :: x85 :: x86 :: x87 :: x88 :: x89 :: x90 :: x91 :: x92 :: x93 :: x94 :: x95 :: x96 :: x97 :: x98 :: x99 :: x100 :: x101 :: x102 :: x103 :: x104 :: x105 :: x106 :: x107 :: x108 :: x109 :: x110 :: x111 :: x112 :: x113 :: x114 :: x115 :: x116 :: x117 :: x118 :: x119 :: x120 :: x121 :: x122 :: x123 :: x124 :: x125 :: x126 :: x127 :: x128 :: x129 :: x130 :: x131 :: x132 :: x133 :: x134 :: x135 :: x136 :: x137 :: x138 :: x139 :: x140 :: x141 :: x142 :: x143 :: x144 :: x145 :: x146 :: x147 :: x148 :: x149 :: x150 :: x151 :: x152 :: x153 :: x154 :: x155 :: x156 :: x157 :: x158 :: x159 :: x160 :: x161 :: x162 :: x163 :: x164 :: x165 :: x166 :: x167 :: x168 :: x169 :: x170 :: x171 :: x172 :: x173 :: x174 :: x175 :: x176 :: x177 :: x178 :: x179 :: x180 :: x181 :: x182 :: x183 :: x184 :: x185 :: x186 :: x187 :: x188 :: x189 :: x190 :: x191 :: x192 :: x193 :: x194 :: x195 :: x196 :: x197 :: x198 :: x199 :: x200 :: x201 :: x202 :: x203 :: x204 :: x205 :: x206 :: x207 :: x208 :: x209 :: x210 :: x211 :: x212 :: x213 :: x214 :: x215 :: x216 :: x217 :: x218 :: x219 :: x220 :: x221 :: x222 :: x223 :: x224 :: x225 :: x226 :: x227 :: x228 :: x229 :: x230 :: x231 :: x232 :: x233 :: ([] : List Value)), []⟩ (w.drewN q)) :
    Code.wp Try.prog (.loop (lp (bodyOf Try.f4) 0)) Q ⟨List.toArray (.slice ad d.length cd :: x1 :: x2 :: x3 :: .int .i64 (d.length : Int) :: whv :: x6 :: .int .i64 0 :: x8 :: x9 :: x10 :: x11 :: x12 :: x13 :: x14 :: x15 :: x16 :: x17 :: x18 :: x19 :: x20 :: x21 :: x22 :: x23 :: x24 :: x25 :: x26 :: x27 :: x28 :: x29 :: x30 :: x31 :: x32 :: x33 :: x34 :: x35 :: x36 :: x37 :: x38 :: x39 :: x40 :: x41 :: x42 :: x43 :: x44 :: x45 :: x46 :: x47 :: x48 :: x49 :: x50 :: x51 :: x52 :: x53 :: x54 :: x55 :: x56 :: x57 :: x58 :: x59 :: x60 :: x61 :: x62 :: x63 :: x64 :: x65 :: x66 :: x67 :: x68 :: x69 :: x70 :: x71 :: x72 :: x73 :: x74 :: x75 :: x76 :: x77 :: x78 :: x79 :: x80 :: x81 :: x82 :: x83 :: x84 :: x85 :: x86 :: x87 :: x88 :: x89 :: x90 :: x91 :: x92 :: x93 :: x94 :: x95 :: x96 :: x97 :: x98 :: x99 :: x100 :: x101 :: x102 :: x103 :: x104 :: x105 :: x106 :: x107 :: x108 :: x109 :: x110 :: x111 :: x112 :: x113 :: x114 :: x115 :: x116 :: x117 :: x118 :: x119 :: x120 :: x121 :: x122 :: x123 :: x124 :: x125 :: x126 :: x127 :: x128 :: x129 :: x130 :: x131 :: x132 :: x133 :: x134 :: x135 :: x136 :: x137 :: x138 :: x139 :: x140 :: x141 :: x142 :: x143 :: x144 :: x145 :: x146 :: x147 :: x148 :: x149 :: x150 :: x151 :: x152 :: x153 :: x154 :: x155 :: x156 :: x157 :: x158 :: x159 :: x160 :: x161 :: x162 :: x163 :: x164 :: x165 :: x166 :: x167 :: x168 :: x169 :: x170 :: x171 :: x172 :: x173 :: x174 :: x175 :: x176 :: x177 :: x178 :: x179 :: x180 :: x181 :: x182 :: x183 :: x184 :: x185 :: x186 :: x187 :: x188 :: x189 :: x190 :: x191 :: x192 :: x193 :: x194 :: x195 :: x196 :: x197 :: x198 :: x199 :: x200 :: x201 :: x202 :: x203 :: x204 :: x205 :: x206 :: x207 :: x208 :: x209 :: x210 :: x211 :: x212 :: x213 :: x214 :: x215 :: x216 :: x217 :: x218 :: x219 :: x220 :: x221 :: x222 :: x223 :: x224 :: x225 :: x226 :: x227 :: x228 :: x229 :: x230 :: x231 :: x232 :: x233 :: ([] : List Value)), []⟩ w := by
  conv => arg 2; arg 1; whnf
  obtain ⟨aw, bw, ow, cw, rfl, hmw, haw, hcw⟩ := hv
  obtain ⟨a, b, off, cap, vs, hva, hmax, ha, hc⟩ := hd
  cases hva
  rw [fl_length] at hmw haw
  simp only [fl_length] at hcw hQ
  rw [fl_length]
  have HS : Hid _ := hs
  have HR : Hid _ := hr
  have HRL : Hid (∀ i, i < d.length → (row0 d i).length ≤ 131072) := fun i hi => by
    have h1 := wordsTo_mono d (j := i + 1) (k := d.length) (by omega)
    simp only [wordsTo] at h1
    unfold wordsOf at hw
    omega
  clear hs hr hw
  go_loopw [7] (fun iv wr => ∃ i q : Nat, i ≤ d.length ∧ iv = .int .i64 i ∧ wr = w.drewN q) (fun iv _ => d.length - (intOf iv).toNat)
  case atStart => exact ⟨0, 0, Nat.zero_le _, rfl, rfl⟩
  case round =>
    obtain ⟨i, q, hi1, rfl, rfl⟩ := hrel
    by_cases hlt : i < d.length
    · obtain ⟨hp, hbB⟩ := ha (by omega)
      obtain ⟨hpw, hbw⟩ := haw (by omega)
      obtain ⟨hcv, a1, b1, off1, cap1, hv1, hm1, ha1, hc1⟩ := hc i hlt
      rw [hv1] at hcv
      have hrl := HRL.out i hlt
      have hwi := hcw i hlt
      rw [at0_fl _ hlt] at hwi
      cases hp
      cases hpw
      clear ha haw
      go_wp2
      go_loopw [9] (fun kv wr => ∃ k q : Nat, k ≤ (row0 d i).length ∧ kv = .int .i64 k ∧ wr = w.drewN q) (fun kv _ => (row0 d i).length - (intOf kv).toNat)
      case atStart => exact ⟨0, q, Nat.zero_le _, rfl, rfl⟩
      case round =>
        obtain ⟨k, q2, hk1, rfl, rfl⟩ := hrel
        by_cases hlk : k < (row0 d i).length
        · obtain ⟨hp1, hbB1⟩ := ha1 (by omega)
          cases hp1
          have hck := hc1 k hlk
          have hj := HR.out i hlt k hlk
          obtain ⟨j, HJ⟩ : ∃ j : Nat, at0 (row0 d i) k = (j : Int) := ⟨(at0 (row0 d i) k).toNat, by omega⟩
          rw [HJ] at hck hj
          have hjn : j < d.length := by omega
          have hwj := hcw j hjn
          rw [at0_fl _ hjn] at hwj
          have hle : whr gs j ≤ whr gs i := by
            have h1 := HS.out.whr_edge (v := i) (k := k) hlt hlk
            have h2 : (grOf d).nx i k = j := by show (at0 (row0 d i) k).toNat = j; rw [HJ]; simp
            rwa [h2] at h1
          have hle' : ¬ ((whr gs i : Int) < (whr gs j : Int)) := by omega
          have i0 : (0 : Int) ≤ (i : Int) := by omega
          have i1 : (i : Int) < (d.length : Int) := by omega
          have j0 : (0 : Int) ≤ (j : Int) := by omega
          have j1 : (j : Int) < (d.length : Int) := by omega
          have k0 : (0 : Int) ≤ (k : Int) := by omega
          have k1 : (k : Int) < ((row0 d i).length : Int) := by omega
          clear HJ hc hc1 hcw ha1 hj hle
          go_wp2_with fail
          go_quiet (fail)
          generalize nq = n1
          go_wp2_with fail
          go_roundw
          case rel => exact ⟨k + 1, _, by omega, by go_num, rfl⟩
          case measure => simp [intOf]; omega
        · go_wp2
          go_roundw
          case rel => exact ⟨i + 1, _, by omega, by go_num, rfl⟩
          case measure => simp [intOf]; omega
    · go_wp2
      apply hQ

end Go.Proofs.Qxb6603026a
