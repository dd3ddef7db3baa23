/-
  FnCycleThroughStaysInsideEachGroup (function 6): one of its loops.
-/
import Derived.Test.Qxb6603026aCycPure
import Derived.Test.Qxb6603026aHasEdge
import Derived.Test.Qxb6603026aGRel
import Derived.Test.Qxb6603026aRead
import Derived.Deep.QuietTactic
import Derived.BigQuiet
import Derived.BigRegion
import Derived.Outline
namespace Go.Proofs.Qxb6603026a
open Go.RowKit
set_option linter.unusedSimpArgs false
set_option linter.unusedVariables false

/-- only block bi has turned -/
def Oth (bi : Nat) (w w' : World) : Prop := ∀ b, b ≠ bi → w'.heap[b]? = w.heap[b]?
theorem Oth.cell {bi : Nat} {w w' : World} (h : Oth bi w w') {p : Addr} (hp : p.block ≠ bi) : w'.cell? p = w.cell? p := World.cell?_of_block (w := w) (h p.block hp)
/-- the marks so far: those of the first k of R are new -/
def MarkK (n m : Nat) (R : List Nat) (k : Nat) (s0 s : List Int) : Prop := s.length = n ∧ ∀ v, v < n → at0 s v = if v ∈ R.take k then (m : Int) else at0 s0 v
theorem MarkK.start {n m : Nat} {R : List Nat} {s0 : List Int} (h : s0.length = n) : MarkK n m R 0 s0 s0 := ⟨h, fun v hv => by simp⟩
theorem MarkK.step {n m : Nat} {R : List Nat} {k : Nat} {s0 s : List Int} (h : MarkK n m R k s0 s) (hk : k < R.length) (hb : nd0 R k < n) {z : Int} (hz : z = (m : Int)) : MarkK n m R (k + 1) s0 (s.set (nd0 R k) z) := by
  subst hz
  refine ⟨by simpa using h.1, fun v hv => ?_⟩
  have e : R.take (k + 1) = R.take k ++ [nd0 R k] := by rw [List.take_succ_eq_append_getElem hk]; simp [nd0, hk]
  rw [e]
  by_cases ev : v = nd0 R k
  · rw [ev, at0_set_self (by rw [h.1]; exact hb)]; simp
  · rw [at0_set_other ev, h.2 v hv]; simp [ev]
theorem not_mem_take {R : List Nat} (hn : R.Nodup) {k : Nat} (hk : k < R.length) : nd0 R k ∉ R.take k := by
  intro hm
  obtain ⟨j, hj, e⟩ := List.mem_iff_getElem.1 hm
  simp at hj
  have e2 : nd0 R k = R[k] := by simp [nd0, hk]
  rw [List.getElem_take, e2] at e
  have := (List.getElem_inj hn).1 e
  omega
theorem has_edge {d : List (List Int)} (hr : InRange d) {a b : Nat} (ha : a < d.length) (he : (grOf d).Edge a b) : hasX (row0 d a) (b : Int) = true := by
  obtain ⟨k, hk, e⟩ := he
  have hk' : k < (row0 d a).length := hk
  have h1 : (at0 (row0 d a) k).toNat = b := e
  have h2 := hr a ha k hk'
  unfold hasX
  rw [List.contains_iff_mem]
  have h3 : at0 (row0 d a) k = (b : Int) := by omega
  rw [← h3, show at0 (row0 d a) k = (row0 d a)[k] by simp [at0, hk']]
  exact List.getElem_mem hk'
def CkRel (bi B : Nat) (w4 : World) (n m : Nat) (R : List Nat) (s0 : List Int) (kv : Value) (w : World) : Prop :=
  ∃ (k : Nat) (s : List Int), k ≤ R.length + 1 ∧ kv = .int .i64 (k : Int) ∧ IRow w bi n s ∧ MarkK n m R k s0 s ∧ Oth bi w4 w ∧ Below B w4 w

set_option maxRecDepth 100000 in
set_option maxHeartbeats 2000000 in
theorem chkLoop (bi B : Nat) (w : World) (d : List (List Int)) (gs : List (List Nat)) (c : List Nat) (g f : Nat) (R : List Nat) (ad : Option Addr) (cd : Nat) (whv : Value) (ac : Option Addr) (cc : Nat) (s0 : List Int) {Q : Exit → Act → World → Prop} {x1 x2 x3 x6 x9 x14 x15 x16 x17 x18 x19 x20 x21 x22 x23 x24 x25 x26 x27 x28 x29 x30 x31 x32 x33 x34 x35 x36 x37 x38 x39 x40 x41 x42 x43 x44 x45 x46 x47 x48 x49 x50 x51 x52 x53 x54 x55 x56 x57 x58 x59 x60 x61 x62 x63 x64 x65 x66 x67 x68 x69 x70 x71 x72 x73 x74 x75 x76 x77 x78 x79 x80 x81 x82 x83 x84 x85 x86 x87 x88 x89 x90 x91 x92 x93 x94 x95 x96 x97 x98 x99 x100 x101 x102 x103 x104 x105 x106 x107 x108 x109 x110 x111 x112 x113 x114 x115 x116 x117 x118 x119 x120 x121 x122 x123 x124 x125 x126 x127 x128 x129 x130 x131 x132 x133 x134 x135 x136 x137 x138 x139 x140 x141 x142 x143 x144 x145 x146 x147 x148 x149 x150 x151 x152 x153 x154 x155 x156 x157 x158 x159 x160 : Value}
    (hn : d.length ≤ 65536) (hw : wordsOf d ≤ 131072) (hr : InRange d) (hs : Scc (grOf d) gs) (hcg : gs[g]? = some c) (hgl : g ≤ 65536) (hf : f ∈ c) (hcy : Cyc (grOf d) c f R) (hRl : R.length ≤ 65536) (hbi : B ≤ bi)
    (hd : RowsIn (fun b => b ≠ bi) w (.slice ad d.length cd) d) (hv : IntsIn (fun b => b ≠ bi) w whv (fl d.length (whr gs))) (hc : IntsIn (fun b => b ≠ bi) w (.slice ac (R.length + 1 + 1) cc) (ns (f :: R ++ [f]))) (hi : IRow w bi d.length s0) (hsl : s0.length = d.length) (hsr : ∀ v, v < d.length → at0 s0 v < ((g + 1 : Nat) : Int))
    (hQ : ∀ (y2 y13 y14 y15 y102 y103 y104 y105 y106 y107 y108 y109 y110 y111 y112 y113 y114 y115 y116 y117 y118 y119 y120 y121 y122 y123 y124 y125 y126 y127 y128 y129 y130 y131 y132 y133 y134 y135 y136 y137 y138 y139 y140 y141 y142 y143 y144 y145 y146 y147 y148 y149 y150 y151 y152 y153 y154 y155 y156 y157 y158 y159 y160 : Value) (s1 : List Int) (w1 : World), IRow w1 bi d.length s1 → s1.length = d.length → (∀ v, v < d.length → at0 s1 v < ((g + 1 + 1 : Nat) : Int)) → Below B w w1 → Q (.exit 2) ⟨List.toArray (.slice ad d.length cd :: x1 :: y2 :: x3 :: .int .i64 (d.length : Int) :: whv :: x6 :: .slice (some ⟨bi, 0, none⟩) d.length d.length :: .int .i64 (g : Int) :: x9 :: .int .i64 (f : Int) :: .slice ac (R.length + 1 + 1) cc :: .int .i64 ((R.length + 1 : Nat) : Int) :: y13 :: y14 :: y15 :: x16 :: x17 :: x18 :: x19 :: x20 :: x21 :: x22 :: x23 :: x24 :: x25 :: x26 :: x27 :: x28 :: x29 :: x30 :: x31 :: x32 :: x33 :: x34 :: x35 :: x36 :: x37 :: x38 :: x39 :: x40 :: x41 :: x42 :: x43 :: x44 :: x45 :: x46 :: x47 :: x48 :: x49 :: x50 :: x51 :: x52 :: x53 :: x54 :: x55 :: x56 :: x57 :: x58 :: x59 :: x60 :: x61 :: x62 :: x63 :: x64 :: x65 :: x66 :: x67 :: x68 :: x69 :: x70 :: x71 :: x72 :: x73 :: x74 :: x75 :: x76 :: x77 :: x78 :: x79 :: x80 :: x81 :: x82 :: x83 :: x84 :: x85 :: x86 :: x87 :: x88 :: x89 :: x90 :: x91 :: x92 :: x93 :: x94 :: x95 :: x96 :: x97 :: x98 :: x99 :: x100 :: x101 :: y102 :: y103 :: y104 :: y105 :: y106 :: y107 :: y108 :: y109 :: y110 :: y111 :: y112 :: y113 :: y114 :: y115 :: y116 :: y117 :: y118 :: y119 :: y120 :: y121 :: y122 :: y123 :: y124 :: y125 :: y126 :: y127 :: y128 :: y129 :: y130 :: y131 :: y132 :: y133 :: y134 :: y135 :: y136 :: y137 :: y138 :: y139 :: y140 :: y141 :: y142 :: y143 :: y144 :: y145 :: y146 :: y147 :: y148 :: y149 :: y150 :: y151 :: y152 :: y153 :: y154 :: y155 :: y156 :: y157 :: y158 :: y159 :: y160 :: ([] : List Value)), []⟩ w1) :
    Code.wp Try.prog (.loop (lp (lp (bodyOf Try.f6) 0) 0)) Q ⟨List.toArray (.slice ad d.length cd :: x1 :: x2 :: x3 :: .int .i64 (d.length : Int) :: whv :: x6 :: .slice (some ⟨bi, 0, none⟩) d.length d.length :: .int .i64 (g : Int) :: x9 :: .int .i64 (f : Int) :: .slice ac (R.length + 1 + 1) cc :: .int .i64 ((R.length + 1 : Nat) : Int) :: .int .i64 0 :: x14 :: x15 :: x16 :: x17 :: x18 :: x19 :: x20 :: x21 :: x22 :: x23 :: x24 :: x25 :: x26 :: x27 :: x28 :: x29 :: x30 :: x31 :: x32 :: x33 :: x34 :: x35 :: x36 :: x37 :: x38 :: x39 :: x40 :: x41 :: x42 :: x43 :: x44 :: x45 :: x46 :: x47 :: x48 :: x49 :: x50 :: x51 :: x52 :: x53 :: x54 :: x55 :: x56 :: x57 :: x58 :: x59 :: x60 :: x61 :: x62 :: x63 :: x64 :: x65 :: x66 :: x67 :: x68 :: x69 :: x70 :: x71 :: x72 :: x73 :: x74 :: x75 :: x76 :: x77 :: x78 :: x79 :: x80 :: x81 :: x82 :: x83 :: x84 :: x85 :: x86 :: x87 :: x88 :: x89 :: x90 :: x91 :: x92 :: x93 :: x94 :: x95 :: x96 :: x97 :: x98 :: x99 :: x100 :: x101 :: x102 :: x103 :: x104 :: x105 :: x106 :: x107 :: x108 :: x109 :: x110 :: x111 :: x112 :: x113 :: x114 :: x115 :: x116 :: x117 :: x118 :: x119 :: x120 :: x121 :: x122 :: x123 :: x124 :: x125 :: x126 :: x127 :: x128 :: x129 :: x130 :: x131 :: x132 :: x133 :: x134 :: x135 :: x136 :: x137 :: x138 :: x139 :: x140 :: x141 :: x142 :: x143 :: x144 :: x145 :: x146 :: x147 :: x148 :: x149 :: x150 :: x151 :: x152 :: x153 :: x154 :: x155 :: x156 :: x157 :: x158 :: x159 :: x160 :: ([] : List Value)), []⟩ w := by
  conv => arg 2; arg 1; whnf
  obtain ⟨aw, bw, ow, cw, rfl, hmw, haw, hcw⟩ := hv
  rw [fl_length] at hmw haw
  simp only [fl_length] at hcw hQ
  rw [fl_length]
  obtain ⟨acy, bcy, ocy, ccy, hvc, hmc, hac, hcc⟩ := hc
  have hCl : (ns (f :: R ++ [f])).length = R.length + 1 + 1 := by rw [ns_length]; simp
  rw [hCl] at hvc hmc hac hcc
  cases hvc
  obtain ⟨hpc, hbc⟩ := hac (by omega)
  cases hpc
  have hfn : f < d.length := hs.lt g c hcg f hf
  obtain ⟨hpw, hbw⟩ := haw (by omega)
  cases hpw
  have HS : Hid _ := hs
  have HCG : Hid _ := hcg
  have HF : Hid _ := hf
  have HCY : Hid _ := hcy
  have HD : Hid _ := hd
  have HW : Hid _ := hw
  have HR : Hid _ := hr
  have HI0 : Hid _ := hi
  have HSL : Hid _ := hsl
  have HSR : Hid _ := hsr
  obtain ⟨la, hla⟩ : ∃ la, la = R.length + 1 := ⟨_, rfl⟩
  have HLA : Hid _ := hla
  rw [← hla] at hQ ⊢
  clear hs hcg hf hcy hd hw hr hi hsl hsr haw hac hCl hla
  go_loopw [13] (fun kv wr => CkRel bi B w d.length (g + 1) R s0 kv wr) (fun kv _ => R.length + 1 - (intOf kv).toNat)
  case atStart => exact ⟨0, s0, Nat.zero_le _, rfl, HI0.out, MarkK.start HSL.out, fun _ _ => rfl, Below.refl _ _⟩
  case round =>
    clear HI0
    obtain ⟨k, s, hk, rfl, hi, hm, ho, hb⟩ := hrel
    have HI : Hid _ := hi
    have HM : Hid _ := hm
    have HO : Hid _ := ho
    have HB : Hid _ := hb
    have hla : la = R.length + 1 := HLA.out
    by_cases hltR : k < R.length + 1
    · have hlt : k < la := by omega
      have hmem : ∀ x ∈ (f :: R ++ [f]), x ∈ c := fun x hx => by
        simp at hx
        rcases hx with rfl | hx | rfl
        · exact HF.out
        · exact (HCY.out.sub x hx).1
        · exact HF.out
      obtain ⟨a, ha⟩ : ∃ a, a = nd0 (f :: R ++ [f]) k := ⟨_, rfl⟩
      obtain ⟨b, hbb⟩ : ∃ b, b = nd0 (f :: R ++ [f]) (k + 1) := ⟨_, rfl⟩
      have hac : a ∈ c := by rw [ha]; exact hmem _ (nd0_mem (by simp; omega))
      have hbc' : b ∈ c := by rw [hbb]; exact hmem _ (nd0_mem (by simp; omega))
      have han : a < d.length := HS.out.lt g c HCG.out a hac
      have hbn : b < d.length := HS.out.lt g c HCG.out b hbc'
      have hedge : (grOf d).Edge a b := by rw [ha, hbb]; exact HCY.out.lnk.at k (by simp; omega)
      have hhas := has_edge HR.out han hedge
      have hca := (ho.cell (p := ⟨bcy, ocy + k, none⟩) (by exact hbc)).trans (hcc k (by omega))
      rw [at0_nd0 (by simp; omega), ← ha] at hca
      have hcb := (ho.cell (p := ⟨bcy, ocy + (k + 1), none⟩) (by exact hbc)).trans (hcc (k + 1) (by omega))
      rw [at0_nd0 (by simp; omega), ← hbb] at hcb
      have hwb := (ho.cell (p := ⟨bw, ow + b, none⟩) (by exact hbw)).trans (hcw b hbn)
      rw [at0_fl _ hbn, (HS.out.mem_iff HCG.out hbn).1 hbc'] at hwb
      obtain ⟨a1, b1, o1, c1, vs, hva, hmax, haa, hcd⟩ := HD.out
      obtain ⟨hpd, hbd⟩ := haa (by omega)
      obtain ⟨hcv, hrowin⟩ := hcd a han
      have hcv2 := (ho.cell (p := ⟨b1, o1 + a, none⟩) (by exact hbd)).trans hcv
      obtain ⟨rv, hrv⟩ : ∃ rv, rv = vs a := ⟨_, rfl⟩
      rw [← hrv] at hcv2 hrowin
      have HRI : Hid (IntsIn (fun b => b ≠ bi) wr rv (row0 d a)) := hrowin.same (fun b hb => ho b hb)
      cases hva
      subst hpd
      have hrl := row_le HW.out han
      have t1 : decide ((b : Int) < 0) = false := decide_eq_false (by omega)
      have t2 : decide ((d.length : Int) ≤ (b : Int)) = false := decide_eq_false (by omega)
      have t3 : ((g : Int) != (g : Int)) = false := by simp
      have b0 : (0 : Int) ≤ (b : Int) := by omega
      have b1' : (b : Int) < (d.length : Int) := by omega
      have a0 : (0 : Int) ≤ (a : Int) := by omega
      have a1' : (a : Int) < (d.length : Int) := by omega
      have k2 : (k : Int) + 1 < ((la + 1 : Nat) : Int) := by omega
      have hcall : Calls Try.prog 24 #[rv, .int .i64 (b : Int)] wr fun e w' => e = .returned (.bool true) ∧ w' = wr := by
        have h0 := hasEdge_any _ wr rv (row0 d a) (b : Int) HRI.out (by omega)
        rw [hhas] at h0
        exact h0
      have HCALL : Hid _ := hcall
      clear hcall hhas HRI
      have HBB : Hid _ := hbb
      have hsb := hi.cell (j := b) (by rw [hm.1]; exact hbn)
      have hsf := hi.frozen b
      have hval := hm.2 b hbn
      have HVAL : Hid _ := hval
      clear hi hm ho hb hmem ha hbb hedge hcv hrowin hrv haa hcd hmax hcc hval hac hbc'
      by_cases hlast : k < R.length
      · have hbR : b = nd0 R k := by
          rw [HBB.out]
          simp [nd0, List.getElem?_append_left hlast]
        have hbf : b ≠ f := by rw [hbR]; exact (HCY.out.sub _ (nd0_mem hlast)).2
        have hnt : b ∉ R.take k := by rw [hbR]; exact not_mem_take HCY.out.nd hlast
        have hold : at0 s b < ((g + 1 : Nat) : Int) := by
          rw [HVAL.out, if_neg hnt]; exact HSR.out b hbn
        have t4 : ((b : Int) == (f : Int)) = false := by rw [beq_eq_false_iff_ne]; omega
        have t5 : (at0 s b == (g : Int) + 1) = false := by rw [beq_eq_false_iff_ne]; omega
        have t6 : (k : Int) + 1 < (la : Int) := by omega
        have HST : Hid (∀ z : Int, z = ((g + 1 : Nat) : Int) → MarkK d.length (g + 1) R (k + 1) s0 (s.set b z)) := fun z hz => by rw [hbR]; exact MarkK.step HM.out hlast (by rw [← hbR]; exact hbn) hz
        clear hbR hbf hnt hold hla hltR
        go_wp2_with fail
        refine Calls.mono HCALL.out ?_
        rintro e w' ⟨rfl, rfl⟩
        go_wp2
        go_roundw
        case rel => exact ⟨k + 1, _, by have := HLA.out; omega, by go_num, IRow.set HI.out b _, HST.out _ (by omega), fun y hy => (Below.heap_setCell _ _ _ _ hy).trans (HO.out y hy), HB.out.setCell hbi _⟩
        case measure => simp [intOf]; omega
      · obtain rfl : k = R.length := by omega
        have t6 : ¬ ((R.length : Int) + 1 < (la : Int)) := by omega
        have HST : Hid (MarkK d.length (g + 1) R (R.length + 1) s0 s) := ⟨HM.out.1, fun v hv => by
          have h1 := HM.out.2 v hv
          rw [List.take_length] at h1
          rw [List.take_of_length_le (by omega)]; exact h1⟩
        clear hla hltR
        go_wp2_with fail
        refine Calls.mono HCALL.out ?_
        rintro e w' ⟨rfl, rfl⟩
        go_wp2
        go_roundw
        case rel => exact ⟨R.length + 1, s, by omega, by go_num, HI.out, HST.out, HO.out, HB.out⟩
        case measure => simp [intOf]
    · have hk' : k = R.length + 1 := by omega
      subst hk'
      have hsl2 : s.length = d.length := hm.1
      have hrange : ∀ v, v < d.length → at0 s v < ((g + 1 + 1 : Nat) : Int) := fun v hv => by
        rw [hm.2 v hv]
        have := HSR.out v hv
        split <;> omega
      have hk2 : ¬ (((R.length + 1 : Nat) : Int) < (la : Int)) := by omega
      have HA : Hid _ := hsl2
      have HRG : Hid _ := hrange
      clear hi hm ho hb hsl2 hrange hla hltR
      go_wp2
      apply hQ
      · exact HI.out
      · exact HA.out
      · exact HRG.out
      · exact HB.out

end Go.Proofs.Qxb6603026a
