/-
  graph.cycleThrough (function 32): one of its loops.
-/
import Derived.Test.Qxb6603026aCycMaps
import Derived.Test.Qxb6603026aCycPure
import Derived.Test.Qxb6603026aGRel
import Derived.Deep.QuietTactic
import Derived.BigQuiet
import Derived.BigRegion
import Derived.Outline
namespace Go.Proofs.Qxb6603026a
open Go.RowKit
set_option linter.unusedSimpArgs false
set_option linter.unusedVariables false


set_option maxRecDepth 100000 in
set_option maxHeartbeats 2000000 in
theorem wayLoop (B : Nat) (w0 w : World) (g : Gr) (c : List Nat) (f : Nat) (q : List Nat) (cm : Nat → Nat) (bc i gp cap : Nat) {Q : Exit → Act → World → Prop} {x0 x2 x3 x4 x5 x6 x7 x8 x9 x11 x12 x13 x14 x17 x18 x19 x20 x21 x22 x23 x24 x25 x26 x27 x28 x29 x30 x31 x32 x33 x34 x35 x36 x37 x38 x39 x40 x41 x42 x43 x44 x45 x46 x47 x48 x49 x50 x51 x52 x53 x54 x55 x56 x57 x58 x59 x60 x61 x62 x63 x64 x65 x66 x67 x68 x69 x70 x71 x72 x73 x74 x75 x76 x77 x78 x79 x80 x81 x82 x83 x84 x85 x86 x87 x88 x89 x90 x91 x92 x93 x94 x95 x96 x97 x98 : Value}
    (hql : q.length ≤ 65536) (hqm : ∀ x ∈ q, x < 65536) (ht : Tree g c f q cm) (hi : i ∈ q) (hb : Below B w0 w) (hB : B ≤ w.heap.size) (hc : CameMap w bc f q cm) (hgp : B ≤ gp) (hne : gp ≠ bc) (hr : Row w 3 1 gp 1 cap (ints (ns [f])))
    (hQ : ∀ (y16 y57 y58 y59 y60 y61 y62 y63 y64 y65 y66 : Value) (gp1 cap1 : Nat) (R : List Nat) (w1 : World), Way g f q i f R → Below B w0 w1 → B ≤ w1.heap.size → B ≤ gp1 → Row w1 3 1 gp1 (R.length + 1) cap1 (ints (ns (f :: R.reverse))) → Q (.exit 6) ⟨List.toArray (x0 :: .int .i64 (f : Int) :: x2 :: x3 :: x4 :: x5 :: x6 :: x7 :: x8 :: x9 :: .map (some bc) :: x11 :: x12 :: x13 :: x14 :: .slice (some ⟨gp1, 0, none⟩) (R.length + 1) cap1 :: y16 :: x17 :: x18 :: x19 :: x20 :: x21 :: x22 :: x23 :: x24 :: x25 :: x26 :: x27 :: x28 :: x29 :: x30 :: x31 :: x32 :: x33 :: x34 :: x35 :: x36 :: x37 :: x38 :: x39 :: x40 :: x41 :: x42 :: x43 :: x44 :: x45 :: x46 :: x47 :: x48 :: x49 :: x50 :: x51 :: x52 :: x53 :: x54 :: x55 :: x56 :: y57 :: y58 :: y59 :: y60 :: y61 :: y62 :: y63 :: y64 :: y65 :: y66 :: x67 :: x68 :: x69 :: x70 :: x71 :: x72 :: x73 :: x74 :: x75 :: x76 :: x77 :: x78 :: x79 :: x80 :: x81 :: x82 :: x83 :: x84 :: x85 :: x86 :: x87 :: x88 :: x89 :: x90 :: x91 :: x92 :: x93 :: x94 :: x95 :: x96 :: x97 :: x98 :: ([] : List Value)), []⟩ w1) :
    Code.wp Try.prog (.loop (lp (lp (lp (bodyOf Try.f32) 1) 0) 0)) Q ⟨List.toArray (x0 :: .int .i64 (f : Int) :: x2 :: x3 :: x4 :: x5 :: x6 :: x7 :: x8 :: x9 :: .map (some bc) :: x11 :: x12 :: x13 :: x14 :: .slice (some ⟨gp, 0, none⟩) 1 cap :: .int .i64 (i : Int) :: x17 :: x18 :: x19 :: x20 :: x21 :: x22 :: x23 :: x24 :: x25 :: x26 :: x27 :: x28 :: x29 :: x30 :: x31 :: x32 :: x33 :: x34 :: x35 :: x36 :: x37 :: x38 :: x39 :: x40 :: x41 :: x42 :: x43 :: x44 :: x45 :: x46 :: x47 :: x48 :: x49 :: x50 :: x51 :: x52 :: x53 :: x54 :: x55 :: x56 :: x57 :: x58 :: x59 :: x60 :: x61 :: x62 :: x63 :: x64 :: x65 :: x66 :: x67 :: x68 :: x69 :: x70 :: x71 :: x72 :: x73 :: x74 :: x75 :: x76 :: x77 :: x78 :: x79 :: x80 :: x81 :: x82 :: x83 :: x84 :: x85 :: x86 :: x87 :: x88 :: x89 :: x90 :: x91 :: x92 :: x93 :: x94 :: x95 :: x96 :: x97 :: x98 :: ([] : List Value)), []⟩ w := by
  conv => arg 2; arg 1; whnf
  have HT : Hid _ := ht
  have HM : Hid _ := hqm
  have HB0 : Hid _ := hb
  have HC0 : Hid _ := hc
  have HR0 : Hid _ := hr
  have HI : Hid _ := hi
  clear ht hqm hb hc hr hi
  go_loopw [15, 16] (fun pv kv wr => ∃ (k gp cap : Nat) (R : List Nat), kv = .int .i64 (k : Int) ∧ pv = .slice (some ⟨gp, 0, none⟩) (R.length + 1) cap ∧ Way g f q i k R ∧ Below B w0 wr ∧ B ≤ wr.heap.size ∧ CameMap wr bc f q cm ∧ B ≤ gp ∧ gp ≠ bc ∧ Row wr 3 1 gp (R.length + 1) cap (ints (ns (f :: R.reverse)))) (fun _ kv _ => ordOf q (intOf kv).toNat)
  case atStart => exact ⟨i, gp, cap, [], rfl, rfl, Way.start HI.out, HB0.out, hB, HC0.out, hgp, hne, HR0.out⟩
  case round =>
    clear HB0 HC0 HR0 HI hB hgp hne
    obtain ⟨k, gp2, cap2, R, rfl, rfl, hw, hb, hB, hc, hgp, hne, hr⟩ := hrel
    have HW : Hid _ := hw
    have HB : Hid _ := hb
    have HC : Hid _ := hc
    have HR : Hid _ := hr
    have hkn : k < 65536 := HM.out k hw.kq
    have hrl : R.length ≤ q.length := length_le_of_nodup hw.nd (fun x hx => (hw.rq x hx).1)
    clear hw hb hc hr
    by_cases hkf : k = f
    · subst hkf
      have t1 : ((k : Int) != (k : Int)) = false := by simp
      go_wp2
      apply hQ
      · exact HW.out
      · exact HB.out
      · exact hB
      · exact hgp
      · exact HR.out
    · have t1 : ((k : Int) != (f : Int)) = true := by
        rw [bne_iff_ne]; omega
      obtain ⟨i3, p1, p2, p3, p4⟩ := info_parts Try.info3
      have HKF : Hid _ := hkf
      clear hkf
      go_wp2_with (at_builtin; refine wpList_append_lies _ rfl (.tmp 63) (.tmp 65) 26 rfl B 3 i3 (.int .i64 0) 1 8 Try.underlying26 p1 p2 p3 p4 rfl (by omega) (.slice (some ⟨gp2, 0, none⟩) (R.length + 1) cap2) (R.length + 1) (ints (ns (f :: R.reverse))) rfl ((Row.owns HR.out hgp).alloc _) ⟨wr.heap.size, 0, none⟩ 1 1 [.int .i64 (k : Int)] rfl rfl (news_one (by simp) _ _) (oneCell_int _) (by omega) (by unfold maxLen; omega) (by omega) (by simp; omega) (wr.heap.size + 1) (by simp) ?_)
      intro g5 cap5 w5 ho5 hg5 hat5 hlt5
      have hbb : B ≤ g5 := (World.ownsRow.lt ho5 g5 rfl).1
      have hcl := CameMap.lt HC.out
      have hne5 : g5 ≠ bc := by
        rcases hat5 with h5 | h5
        · have h6 : some gp2 = some g5 := h5
          injection h6 with h6; omega
        · omega
      have hc5 : CameMap w5 bc f q cm := (CameMap.alloc HC.out _).kept hg5 (fun e => by have h6 : some bc = some gp2 := e; injection h6 with h6; omega)
      have hb5 : Below B w0 w5 := (HB.out.alloc hB _).grown hg5 (by simp; omega) (fun j hj => by have h6 : some gp2 = some j := hj; injection h6 with h6; omega)
      have hB5 : B ≤ w5.heap.size := by omega
      have hl := hc5.look (x := k) (by omega) HW.out.kq HKF.out
      have hst := HW.out.step HT.out HKF.out
      have hpar := (HT.out.par k HW.out.kq HKF.out).2.1
      have hrow : Row w5 3 1 g5 ((k :: R).length + 1) cap5 (ints (ns (f :: (k :: R).reverse))) := by
        have e : ints (ns (f :: (k :: R).reverse)) = ints (ns (f :: R.reverse)) ++ [.int .i64 (k : Int)] := by simp [ns, ints]
        rw [e]; exact Row.of_owns ho5
      have HROW : Hid _ := hrow
      have HC5 : Hid _ := hc5
      have HB5 : Hid _ := hb5
      have HST : Hid _ := hst
      have HPAR : Hid _ := hpar
      clear hc5 hb5 hrow hst ho5 hg5 hat5 hlt5 hpar
      go_wp2
      go_roundw
      case rel => exact ⟨cm k, g5, cap5, k :: R, rfl, rfl, HST.out, HB5.out, hB5, HC5.out, hbb, hne5, HROW.out⟩
      case measure => simp [intOf]; exact HPAR.out

end Go.Proofs.Qxb6603026a
