/-
  graph.cycleThrough (function 32): one of its loops.
-/
import Derived.Test.Qxb6603026aCycMaps
import Derived.Test.Qxb6603026aCycPure
import Derived.Test.Qxb6603026aGRel
import Derived.Deep.QuietTactic
import Derived.BigQuiet
import Derived.BigRegion
import Derived.Outline
namespace Go.Proofs.Qxb6603026a
open Go.RowKit
set_option linter.unusedSimpArgs false
set_option linter.unusedVariables false


set_option maxRecDepth 100000 in
set_option maxHeartbeats 2000000 in
theorem setLoop (B : Nat) (w0 w : World) (c : List Nat) (ag : Option Addr) (cg : Nat) {Q : Exit → Act → World → Prop} {x0 x1 x2 x3 x4 x5 x6 x8 x9 x10 x11 x12 x13 x14 x15 x16 x17 x18 x19 x20 x21 x25 x26 x27 x28 x29 x30 x31 x32 x33 x34 x35 x36 x37 x38 x39 x40 x41 x42 x43 x44 x45 x46 x47 x48 x49 x50 x51 x52 x53 x54 x55 x56 x57 x58 x59 x60 x61 x62 x63 x64 x65 x66 x67 x68 x69 x70 x71 x72 x73 x74 x75 x76 x77 x78 x79 x80 x81 x82 x83 x84 x85 x86 x87 x88 x89 x90 x91 x92 x93 x94 x95 x96 x97 x98 : Value}
    (hcl : c.length ≤ 65536) (hcm : ∀ x ∈ c, x < 65536) (hg : IntsAt B w0 (.slice ag c.length cg) (ns c)) (hb : Below B w0 w) (hB : B < w.heap.size) (hs : SetMap w B [])
    (hQ : ∀ (y9 y24 y25 y26 y27 y28 y29 y30 : Value) (w1 : World), Below B w0 w1 → SetMap w1 B c → Q (.exit 0) ⟨List.toArray (x0 :: x1 :: x2 :: x3 :: x4 :: x5 :: x6 :: .map (some B) :: x8 :: y9 :: x10 :: x11 :: x12 :: x13 :: x14 :: x15 :: x16 :: x17 :: x18 :: x19 :: x20 :: x21 :: .slice ag c.length cg :: .int .i64 (c.length : Int) :: y24 :: y25 :: y26 :: y27 :: y28 :: y29 :: y30 :: x31 :: x32 :: x33 :: x34 :: x35 :: x36 :: x37 :: x38 :: x39 :: x40 :: x41 :: x42 :: x43 :: x44 :: x45 :: x46 :: x47 :: x48 :: x49 :: x50 :: x51 :: x52 :: x53 :: x54 :: x55 :: x56 :: x57 :: x58 :: x59 :: x60 :: x61 :: x62 :: x63 :: x64 :: x65 :: x66 :: x67 :: x68 :: x69 :: x70 :: x71 :: x72 :: x73 :: x74 :: x75 :: x76 :: x77 :: x78 :: x79 :: x80 :: x81 :: x82 :: x83 :: x84 :: x85 :: x86 :: x87 :: x88 :: x89 :: x90 :: x91 :: x92 :: x93 :: x94 :: x95 :: x96 :: x97 :: x98 :: ([] : List Value)), []⟩ w1) :
    Code.wp Try.prog (.loop (lp (bodyOf Try.f32) 0)) Q ⟨List.toArray (x0 :: x1 :: x2 :: x3 :: x4 :: x5 :: x6 :: .map (some B) :: x8 :: x9 :: x10 :: x11 :: x12 :: x13 :: x14 :: x15 :: x16 :: x17 :: x18 :: x19 :: x20 :: x21 :: .slice ag c.length cg :: .int .i64 (c.length : Int) :: .int .i64 0 :: x25 :: x26 :: x27 :: x28 :: x29 :: x30 :: x31 :: x32 :: x33 :: x34 :: x35 :: x36 :: x37 :: x38 :: x39 :: x40 :: x41 :: x42 :: x43 :: x44 :: x45 :: x46 :: x47 :: x48 :: x49 :: x50 :: x51 :: x52 :: x53 :: x54 :: x55 :: x56 :: x57 :: x58 :: x59 :: x60 :: x61 :: x62 :: x63 :: x64 :: x65 :: x66 :: x67 :: x68 :: x69 :: x70 :: x71 :: x72 :: x73 :: x74 :: x75 :: x76 :: x77 :: x78 :: x79 :: x80 :: x81 :: x82 :: x83 :: x84 :: x85 :: x86 :: x87 :: x88 :: x89 :: x90 :: x91 :: x92 :: x93 :: x94 :: x95 :: x96 :: x97 :: x98 :: ([] : List Value)), []⟩ w := by
  conv => arg 2; arg 1; whnf
  obtain ⟨a, b, off, cap, hva, hmg, hag, hcg⟩ := hg
  rw [ns_length] at hva hmg hag hcg
  cases hva
  have HB0 : Hid _ := hb
  have HS0 : Hid _ := hs
  have HM : Hid _ := hcm
  clear hb hs hcm
  go_loopw [24] (fun kv wr => ∃ k : Nat, k ≤ c.length ∧ kv = .int .i64 (k : Int) ∧ Below B w0 wr ∧ SetMap wr B (c.take k)) (fun kv _ => c.length - (intOf kv).toNat)
  case atStart => exact ⟨0, Nat.zero_le _, rfl, HB0.out, by rw [List.take_zero]; exact HS0.out⟩
  case round =>
    clear HB0 HS0
    obtain ⟨k, hk, rfl, hb, hs⟩ := hrel
    have HB : Hid _ := hb
    have HS : Hid _ := hs
    by_cases hlt : k < c.length
    · obtain ⟨hp, hbB⟩ := hag (by omega)
      cases hp
      obtain ⟨x, hx⟩ : ∃ x, x = nd0 c k := ⟨_, rfl⟩
      have hck := (hb.cell (p := ⟨b, off + k, none⟩) (by exact hbB)).trans (hcg k hlt)
      rw [at0_nd0 hlt, ← hx] at hck
      have hxn : x < 65536 := by rw [hx]; exact HM.out _ (nd0_mem hlt)
      obtain ⟨w2, hrun, hs2, hg2⟩ := hs.add (x := x) (by omega) (by simp; omega)
      have hb2 : Below B w0 w2 := hb.grown hg2 (by have := hs.lt; omega) (fun j hj => by injection hj with hj; omega)
      have HB2 : Hid _ := hb2
      have HS2 : Hid (SetMap w2 B (c.take (k + 1))) := by
        rw [List.take_succ_eq_append_getElem hlt]
        have e : x = c[k] := by rw [hx]; simp [nd0, hlt]
        rw [← e]; exact hs2
      clear hs hb hs2 hg2 hb2 hx hcg
      go_wp2
      go_roundw
      case rel => exact ⟨k + 1, hlt, by go_num, HB2.out, HS2.out⟩
      case measure => simp [intOf]; omega
    · have hk' : k = c.length := by omega
      subst hk'
      have HS3 : Hid (SetMap wr B c) := by
        have h1 := hs
        rw [List.take_length] at h1
        exact h1
      clear hs hb
      go_wp2
      apply hQ
      · exact HB.out
      · exact HS3.out

end Go.Proofs.Qxb6603026a
