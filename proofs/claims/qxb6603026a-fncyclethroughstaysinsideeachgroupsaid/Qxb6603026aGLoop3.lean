/-
  graph.groups (function 31): the innermost loop: the group leaves the stack.
-/
import Derived.Test.Qxb6603026aGStep
import Derived.Outline
namespace Go.Proofs.Qxb6603026a
open Go.RowKit
set_option linter.unusedSimpArgs false
set_option linter.unusedVariables false

/-- what the loop leaves: the group in new memory, the stack shorter -/
def Popped (H n : Nat) (o l : Nat → Nat) (r : Nat) (wv : Value) (w1 : World) (st1 st2 : List Nat) (i gs scap : Nat) (gl : Value) (w : World) : Prop :=
  CMem H n o l (fun v => decide (v ∈ st1)) r (.slice (some ⟨gs, 0, none⟩) st1.length scap) wv w ∧ Row w 3 1 gs st1.length scap (ints (ns st1)) ∧
    w.ownsRow w1.heap.size 3 1 gl (st2.length + 1) (ints (ns (i :: st2).reverse)) ∧ GFr H (fun _ => False) w1 w

/-- the loop's relation: q1 is left above i, q2 has left -/
def PopRel (H n : Nat) (o l : Nat → Nat) (r : Nat) (wv : Value) (w1 : World) (st1 st2 : List Nat) (i gs scap : Nat) (k : Nat) (gl : Value) (w : World) : Prop :=
  ∃ q1 q2, st2 = q1 ++ q2 ∧ k = q1.length ∧ CMem H n o l (fun v => decide (v ∈ st1 ++ i :: q1)) r (.slice (some ⟨gs, 0, none⟩) (st1 ++ i :: q1).length scap) wv w ∧ Row w 3 1 gs (st1 ++ i :: q1).length scap (ints (ns (st1 ++ i :: q1))) ∧
    w.ownsRow w1.heap.size 3 1 gl q2.length (ints (ns q2.reverse)) ∧ GFr H (fun _ => False) w1 w

/-- the top of what is left -/
theorem popTop (st1 : List Nat) (i : Nat) (q1 : List Nat) : ∃ L x, st1 ++ i :: q1 = L ++ [x] ∧ ((q1 = [] ∧ L = st1 ∧ x = i) ∨ ∃ q, q1 = q ++ [x] ∧ L = st1 ++ i :: q) := by
  rcases List.eq_nil_or_concat q1 with rfl | ⟨q, x, rfl⟩
  · exact ⟨st1, i, rfl, .inl ⟨rfl, rfl, rfl⟩⟩
  · exact ⟨st1 ++ i :: q, x, by simp, .inr ⟨q, by simp, rfl⟩⟩

theorem popStep {H n : Nat} {o l : Nat → Nat} {r : Nat} {wv gl : Value} {w1 wr w3 : World} {L : List Nat} {x gs scap : Nat} {ob : Obj}
    (hc : CMem H n o l (fun v => decide (v ∈ L ++ [x])) r (.slice (some ⟨gs, 0, none⟩) (L.length + 1) scap) wv wr) (hr : Row wr 3 1 gs L.length scap (ints (ns L))) (hf : GFr H (fun _ => False) w1 wr) (hx : x ∉ L) (hgs : H + 10 ≤ gs) (hgw : gs < w1.heap.size) (hcs : H + 10 ≤ w1.heap.size)
    (hob : ∀ k, gl.ownBlock = some k → w1.heap.size ≤ k)
    (hgr : (((wr.setCell ⟨H + 7, 0, none⟩ (.slice (some ⟨gs, 0, none⟩) L.length scap)).setCell ⟨H + 5, x, none⟩ (.bool false)).alloc ob).grownBy w3 gl.ownBlock) :
    CMem H n o l (fun v => decide (v ∈ L)) r (.slice (some ⟨gs, 0, none⟩) L.length scap) wv w3 ∧ Row w3 3 1 gs L.length scap (ints (ns L)) ∧ GFr H (fun _ => False) w1 w3 := by
  have hsz := hf.size
  refine ⟨?_, ?_, ?_⟩
  · refine ((((hc.st7 (.slice (some ⟨gs, 0, none⟩) L.length scap)).st5 (i := x) (x := false)).alloc ob).grown hgr (fun k hk => by have := hob k hk; omega)).congr (fun _ _ => rfl) (fun _ _ => rfl) (fun v _ => ?_)
    by_cases e : v = x
    · subst e; rw [upd_self]; simp [hx]
    · rw [upd_other e]; simp [e]
  · refine (((hr.other (a := ⟨H + 7, 0, none⟩) (by show H + 7 ≠ gs; omega) _).other (a := ⟨H + 5, x, none⟩) (by show H + 5 ≠ gs; omega) _).alloc ob).grown hgr (fun e => ?_)
    have := hob gs e.symm
    omega
  · exact (((hf.setCell (p := ⟨H + 7, 0, none⟩) (by simp) (fun h => by simp at h) _).setCell (p := ⟨H + 5, x, none⟩) (by simp) (fun h => by simp at h) _).alloc (by simp; omega) ob).grown (by simp; omega) hgr (fun k hk => ⟨by have := hob k hk; omega, .inr (hob k hk)⟩)

theorem popEnd {st1 st2 L q1 q2 : List Nat} {x i : Nat} (h : (q1 = [] ∧ L = st1 ∧ x = i) ∨ ∃ q, q1 = q ++ [x] ∧ L = st1 ++ i :: q) (hxi : x = i) (hn : ¬ ∃ q, L = st1 ++ i :: q) (e : st2 = q1 ++ q2) : q1 = [] ∧ L = st1 ∧ st2 = q2 := by
  rcases h with ⟨rfl, rfl, _⟩ | ⟨q, _, hL⟩
  · exact ⟨rfl, rfl, by simpa using e⟩
  · exact absurd ⟨q, hL⟩ hn
theorem popMore {st1 L q1 : List Nat} {x i : Nat} (h : (q1 = [] ∧ L = st1 ∧ x = i) ∨ ∃ q, q1 = q ++ [x] ∧ L = st1 ++ i :: q) (hxi : ¬ x = i) : ∃ q, q1 = q ++ [x] ∧ L = st1 ++ i :: q := by
  rcases h with ⟨_, _, h⟩ | h
  · exact absurd h hxi
  · exact h

set_option maxRecDepth 100000 in
set_option maxHeartbeats 1000000 in
theorem loop3 (H n : Nat) (o l : Nat → Nat) (r : Nat) (wv : Value) (w1 : World) (st1 st2 : List Nat) (i gs scap : Nat) (hn : n ≤ 65536) (hnd : (st1 ++ i :: st2).Nodup) (hlt : ∀ v ∈ st1 ++ i :: st2, v < n) (hle : (st1 ++ i :: st2).length ≤ n) (hgs : H + 10 ≤ gs)
    (hc : CMem H n o l (fun v => decide (v ∈ st1 ++ i :: st2)) r (.slice (some ⟨gs, 0, none⟩) (st1 ++ i :: st2).length scap) wv w1) (hr : Row w1 3 1 gs (st1 ++ i :: st2).length scap (ints (ns (st1 ++ i :: st2))))
    {Q : Exit → Act → World → Prop} {x0 x1 x2 x3 x4 x5 x8 x9 x10 x11 x12 x13 x15 x16 x18 x19 x20 x21 x22 x23 x24 x25 x26 x27 x28 x29 x30 x31 x32 x33 x34 x35 x36 x37 x38 x39 x40 x41 x42 x43 x44 x45 x46 x47 x48 x49 x50 x51 x52 x53 x54 x55 x56 x57 x58 x59 x60 x61 x62 x63 x64 x65 x66 x67 x68 x69 x70 x71 x72 x73 x74 x75 x76 x77 x78 x79 x80 x81 x82 x83 x84 x85 x86 x87 x88 x89 x90 x91 x92 x93 x94 x95 x96 x97 x98 x99 x100 x101 x102 x103 x104 x105 x106 x107 x108 x109 x110 x111 x112 x113 x114 x115 x116 x117 x118 x119 x120 x121 x122 x123 x124 x125 x126 x127 x128 x129 x130 x131 x132 x133 x134 x135 x136 x137 x138 x139 x140 x141 x142 x143 x144 x145 x146 x147 x148 x149 x150 x151 x152 x153 x154 x155 x156 x157 x158 x159 x160 x161 x162 x163 x164 x165 x166 x167 x168 x169 x170 : Value}
    (hQ : ∀ (y18 y144 y145 y146 y147 y148 y149 y150 y151 y152 y153 y154 y155 y156 y157 y158 y159 y160 y161 y162 y163 y164 gl : Value) (w : World), Popped H n o l r wv w1 st1 st2 i gs scap gl w → Q (.exit 4) ⟨List.toArray (x0 :: x1 :: x2 :: x3 :: x4 :: x5 :: .pointer (some ⟨H + 6, 0, none⟩) :: .pointer (some ⟨H + 7, 0, none⟩) :: x8 :: x9 :: x10 :: x11 :: x12 :: x13 :: .int .i64 (i : Int) :: x15 :: x16 :: gl :: y18 :: x19 :: x20 :: x21 :: x22 :: x23 :: x24 :: x25 :: x26 :: x27 :: x28 :: x29 :: x30 :: x31 :: x32 :: x33 :: x34 :: x35 :: x36 :: x37 :: x38 :: x39 :: x40 :: x41 :: x42 :: x43 :: x44 :: x45 :: x46 :: x47 :: x48 :: x49 :: x50 :: x51 :: x52 :: x53 :: x54 :: x55 :: x56 :: x57 :: x58 :: x59 :: x60 :: x61 :: x62 :: x63 :: x64 :: x65 :: x66 :: x67 :: x68 :: x69 :: x70 :: x71 :: x72 :: x73 :: x74 :: x75 :: x76 :: x77 :: x78 :: x79 :: x80 :: x81 :: x82 :: x83 :: x84 :: x85 :: x86 :: x87 :: x88 :: x89 :: x90 :: x91 :: x92 :: x93 :: x94 :: x95 :: x96 :: x97 :: x98 :: x99 :: x100 :: x101 :: x102 :: x103 :: x104 :: x105 :: x106 :: x107 :: x108 :: x109 :: x110 :: x111 :: x112 :: x113 :: x114 :: x115 :: x116 :: x117 :: x118 :: x119 :: x120 :: x121 :: x122 :: x123 :: x124 :: x125 :: x126 :: x127 :: x128 :: x129 :: x130 :: x131 :: x132 :: x133 :: x134 :: x135 :: x136 :: x137 :: x138 :: x139 :: x140 :: x141 :: x142 :: x143 :: y144 :: y145 :: y146 :: y147 :: y148 :: y149 :: y150 :: y151 :: y152 :: y153 :: y154 :: y155 :: y156 :: y157 :: y158 :: y159 :: y160 :: y161 :: y162 :: y163 :: y164 :: x165 :: x166 :: x167 :: x168 :: x169 :: x170 :: ([] : List Value)), []⟩ w) :
    Code.wp Try.prog (.loop (lp (lp (lp (bodyOf Try.f31) 0) 0) 0)) Q ⟨List.toArray (x0 :: x1 :: x2 :: x3 :: x4 :: x5 :: .pointer (some ⟨H + 6, 0, none⟩) :: .pointer (some ⟨H + 7, 0, none⟩) :: x8 :: x9 :: x10 :: x11 :: x12 :: x13 :: .int .i64 (i : Int) :: x15 :: x16 :: .slice none 0 0 :: x18 :: x19 :: x20 :: x21 :: x22 :: x23 :: x24 :: x25 :: x26 :: x27 :: x28 :: x29 :: x30 :: x31 :: x32 :: x33 :: x34 :: x35 :: x36 :: x37 :: x38 :: x39 :: x40 :: x41 :: x42 :: x43 :: x44 :: x45 :: x46 :: x47 :: x48 :: x49 :: x50 :: x51 :: x52 :: x53 :: x54 :: x55 :: x56 :: x57 :: x58 :: x59 :: x60 :: x61 :: x62 :: x63 :: x64 :: x65 :: x66 :: x67 :: x68 :: x69 :: x70 :: x71 :: x72 :: x73 :: x74 :: x75 :: x76 :: x77 :: x78 :: x79 :: x80 :: x81 :: x82 :: x83 :: x84 :: x85 :: x86 :: x87 :: x88 :: x89 :: x90 :: x91 :: x92 :: x93 :: x94 :: x95 :: x96 :: x97 :: x98 :: x99 :: x100 :: x101 :: x102 :: x103 :: x104 :: x105 :: x106 :: x107 :: x108 :: x109 :: x110 :: x111 :: x112 :: x113 :: x114 :: x115 :: x116 :: x117 :: x118 :: x119 :: x120 :: x121 :: x122 :: x123 :: x124 :: x125 :: x126 :: x127 :: x128 :: x129 :: x130 :: x131 :: x132 :: x133 :: x134 :: x135 :: x136 :: x137 :: x138 :: x139 :: x140 :: x141 :: x142 :: x143 :: x144 :: x145 :: x146 :: x147 :: x148 :: x149 :: x150 :: x151 :: x152 :: x153 :: x154 :: x155 :: x156 :: x157 :: x158 :: x159 :: x160 :: x161 :: x162 :: x163 :: x164 :: x165 :: x166 :: x167 :: x168 :: x169 :: x170 :: ([] : List Value)), []⟩ w1 := by
  conv => arg 2; arg 1; whnf
  go_loopg [17] st2.length (fun k gl w => PopRel H n o l r wv w1 st1 st2 i gs scap k gl w)
  case atStart => exact ⟨st2, [], by simp, rfl, hc, hr, World.ownsRow_nil _ _ _ _, GFr.refl _ _ _⟩
  case round =>
    have hgw := hr.lt
    have hcs := hc.size
    have hnd' : Hid _ := hnd
    have hlt' : Hid _ := hlt
    have hle' : Hid _ := hle
    clear hc hr hnd hlt hle
    obtain ⟨q1, q2, e2, HK, hc, hr, ho, hf⟩ := hrel
    have E2 : Hid (st2 = q1 ++ q2) := e2
    have HK : Hid (gk = q1.length) := HK
    clear e2
    obtain ⟨L, x, eL, hcase⟩ := popTop st1 i q1
    have hxm : x ∈ st1 ++ i :: st2 := by
      have h1 : x ∈ st1 ++ i :: q1 := by rw [eL]; simp
      rw [E2.out]
      rcases List.mem_append.1 h1 with h1 | h1
      · simp [h1]
      · rcases List.mem_cons.1 h1 with h1 | h1 <;> simp [h1]
    have hxn : x < n := hlt'.out x hxm
    have hnL : (L ++ [x]).Nodup := by
      have h1 := hnd'.out
      rw [E2.out, show st1 ++ i :: (q1 ++ q2) = (st1 ++ i :: q1) ++ q2 by simp, eL] at h1
      exact (List.nodup_append.1 h1).1
    have hxL : x ∉ L := by
      rw [List.nodup_append] at hnL
      exact fun hx => hnL.2.2 x hx x (by simp) rfl
    have hLq : L.length + 1 + q2.length ≤ n := by
      have h1 := hle'.out
      rw [E2.out, show st1 ++ i :: (q1 ++ q2) = (st1 ++ i :: q1) ++ q2 by simp, eL] at h1
      simp at h1; omega
    have hll : (L ++ [x]).length = L.length + 1 := by simp
    rw [eL, hll] at hc hr
    have hcell : wr.cell? ⟨gs, L.length, none⟩ = some (.int .i64 (x : Int)) := by
      rw [hr.cell (by omega), ints_get (by rw [ns_length]; simp), at0_ns (by simp)]
      simp
    have hcap := hr.cap_le
    have hcap1 : (L.length : Int) ≤ (scap : Int) := by omega
    obtain ⟨c6, f6⟩ := cell_of_box hc.c6
    obtain ⟨c7, f7⟩ := cell_of_box hc.c7
    have hxc := hc.onsAt hxn
    have hxf := hc.ons.frozen x
    have x0' : (0 : Int) ≤ (x : Int) := by omega
    have x1' : (x : Int) < (n : Int) := by omega
    obtain ⟨i3, p1, p2, p3, p4⟩ := info_parts Try.info3
    have hob := fun k hk => (World.ownsRow.lt ho k hk).1
    have hsz := hf.size
    have hr' := hr.take (m := L.length) (by omega)
    rw [Nat.mul_one, ints_take, show (ns (L ++ [x])).take L.length = ns L by rw [ns_append, List.take_left' (ns_length L)]] at hr'
    have HC : Hid _ := hc
    have HR : Hid _ := hr'
    have HF : Hid _ := hf
    have HCase : Hid _ := hcase
    have HEL : Hid _ := eL
    clear hc hr hr' hf hcase eL hll hnL hxm
    have hbx : (((x : Int)) == ((i : Int))) = decide (x = i) := by
      by_cases h : x = i <;> simp [h] <;> omega
    by_cases hxi : x = i
    · have hb : (((x : Int)) == ((i : Int))) = true := by simp [hxi]
      have HXI : Hid _ := hxi
      clear hxi hbx
      go_wp2_with (at_builtin; refine wpList_append_lies _ rfl (.tmp 158) (.tmp 160) 26 rfl w1.heap.size 3 i3 (.int .i64 0) 1 8 Try.underlying26 p1 p2 p3 p4 rfl (by omega) u17 q2.length (ints (ns q2.reverse)) rfl ((ownsRow_setCell_below (ownsRow_setCell_below ho (by simp; omega) _) (by simp; omega) _).alloc _) ⟨wr.heap.size, 0, none⟩ 1 1 [.int .i64 (x : Int)] rfl rfl (news_one (by simp) _ _) (oneCell_int _) (by omega) (by unfold maxLen; omega) (by omega) (by simp; omega) (wr.heap.size + 1) (by simp) ?_)
      intro g cap w3 ho3 hgr hat hlt3
      obtain ⟨s1, s2, s3⟩ := popStep HC.out HR.out HF.out hxL hgs hgw hcs hob hgr
      clear hgr hat HC HR HF hob c6 f6 c7 f7 hxc hxf hcell ho
      go_wp2
      have hend := popEnd HCase.out HXI.out (fun ⟨q, h⟩ => hxL (by rw [h, HXI.out]; simp)) E2.out
      obtain ⟨rfl, hL, hq⟩ := hend
      rw [hL] at s1 s2
      rw [HXI.out] at ho3
      exact ⟨s1, s2, by rw [hq]; simpa [ns, ints] using ho3, s3⟩
    · have hb : (((x : Int)) == ((i : Int))) = false := by simp; omega
      have HXI : Hid _ := hxi
      clear hxi hbx
      go_wp2_with (at_builtin; refine wpList_append_lies _ rfl (.tmp 158) (.tmp 160) 26 rfl w1.heap.size 3 i3 (.int .i64 0) 1 8 Try.underlying26 p1 p2 p3 p4 rfl (by omega) u17 q2.length (ints (ns q2.reverse)) rfl ((ownsRow_setCell_below (ownsRow_setCell_below ho (by simp; omega) _) (by simp; omega) _).alloc _) ⟨wr.heap.size, 0, none⟩ 1 1 [.int .i64 (x : Int)] rfl rfl (news_one (by simp) _ _) (oneCell_int _) (by omega) (by unfold maxLen; omega) (by omega) (by simp; omega) (wr.heap.size + 1) (by simp) ?_)
      intro g cap w3 ho3 hgr hat hlt3
      obtain ⟨s1, s2, s3⟩ := popStep HC.out HR.out HF.out hxL hgs hgw hcs hob hgr
      clear hgr hat HC HR HF hob c6 f6 c7 f7 hxc hxf hcell ho
      go_wp2
      obtain ⟨q, hq1, hL⟩ := popMore HCase.out HXI.out
      go_roundg q.length
      case measure => rw [HK.out, hq1]; simp
      case rel =>
        rw [hL] at s1 s2
        refine ⟨q, x :: q2, by rw [E2.out, hq1]; simp, rfl, s1, s2, ?_, s3⟩
        simpa [ns, ints] using ho3

theorem GrMem.calm {H : Nat} {w w' : World} {sv gv : Value} {gs : List (List Nat)} (h : GrMem H w sv gv gs) (hf : GFr H (fun _ => False) w w') : GrMem H w' sv gv gs := by
  obtain ⟨us, h1, h2⟩ := h
  refine ⟨us, ?_, fun j c hc => ?_⟩
  · rcases h1.2 with ⟨rfl, h0⟩ | ⟨g, cap, cur, rfl, hb, hg, rest⟩
    · exact ⟨h1.1, .inl ⟨rfl, h0⟩⟩
    · refine ⟨h1.1, .inr ⟨g, cap, cur, rfl, hb, ?_, rest⟩⟩
      rw [hf.own g hb (Row.of_owns h1).lt (fun hx => hx)]
      exact hg
  · obtain ⟨u, hu, gb, cap, rfl, hrow, hb, hne⟩ := h2 j c hc
    exact ⟨_, hu, gb, cap, rfl, hrow.congr (hf.own gb hb hrow.lt (fun hx => hx)), hb, hne⟩

/-- the group is handed to the groups -/
theorem end_emit {H r : Nat} {d : List (List Int)} {w0 w w2 w3 w4 : World} {bx : Obj} {s : TS} {wv wv2 gv gl gv' : Value} {ws : List (Nat × Nat)} {i k gs scap m : Nat} {st1 st2 : List Nat} {us : List Value} {ob : Obj}
    (HG : GAll H (grOf d) w0 bx s w (.slice (some ⟨gs, 0, none⟩) m scap) wv gv) (HIn : DfsIn (grOf d) r s) (HP : ∀ v, v ≤ r → v ∈ s.pre) (e : s.wlk = ws ++ [(i, k)]) (hk : ¬ k < (row0 d i).length) (heq : s.low i = s.ord i) (es : s.stk = st1 ++ i :: st2)
    (hgs : H + 10 ≤ gs) (hgw : gs < w2.heap.size)
    (hm : GMem H d.length { s with wlk := ws, fin := s.fin ++ [i], low := s.parLow ws i } w2 (.slice (some ⟨gs, 0, none⟩) m scap) wv2) (hf : GFr H (SW (.slice (some ⟨gs, 0, none⟩) m scap) wv) w w2)
    (hp : Popped H d.length s.ord (s.parLow ws i) s.pre.length wv2 w2 st1 st2 i gs scap gl w3)
    (hu2 : w3.ownsRow (H + 10) 26 1 gv s.grs.length us) (hu3 : ∀ (j : Nat) (c : List Nat), s.grs[j]? = some c → ∃ u, us[j]? = some u ∧ GroupVal H w3 (.slice (some ⟨gs, 0, none⟩) m scap) u c)
    (ho : w4.ownsRow (H + 10) 26 1 gv' (s.grs.length + 1) (us ++ [gl])) (hgr : (w3.alloc ob).grownBy w4 gv.ownBlock) :
    Rel2 H r d w0 bx (mu (grOf d) s) gv' w4 := by
  have hk' : ¬ k < (grOf d).deg i := hk
  have t1 := HG.inv.pop_emit e hk' heq es
  have t2 := TInv2.pop_emit HG.inv HG.inv2 e (s.parLow ws i) es
  obtain ⟨p1, p2, p3, p4⟩ := hp
  have hgb := fun k hk => (World.ownsRow.lt hu2 k hk).1
  have hs2 := p4.size
  have hf4 : GFr H (fun b => some b = gv.ownBlock) w2 w4 := ((p4.mono (fun b hb => hb.elim)).alloc p1.size ob).grown (by simp; have := p1.size; omega) hgr (fun k hk => ⟨hgb k hk, .inl hk.symm⟩)
  have hm4 := (p1.alloc ob).grown hgr hgb
  have hk3 : ∀ {e' : TypeId} {sz g' n' cap' : Nat} {xs : List Value}, Row w3 e' sz g' n' cap' xs → e' ≠ 26 → Row w4 e' sz g' n' cap' xs := fun hR he => (hR.alloc ob).grown hgr (ownBlock_row hR hu2 he)
  refine ⟨{ s with wlk := ws, fin := s.fin ++ [i], low := s.parLow ws i, stk := st1, grs := s.grs ++ [(i :: st2).reverse] }, .slice (some ⟨gs, 0, none⟩) st1.length scap, wv2, mu_pop (g := grOf d) (s := s) (i := i) (k := k) e rfl rfl, ⟨t1, t2, ⟨hm4, ?_, ?_⟩, ?_, ?_, ?_⟩, ?_, HP⟩
  · exact (hk3 p2 (by decide)).owns hgs
  · have hw2 := hm.wlk
    rcases hw2.2 with ⟨h1, h0⟩ | ⟨g, cap, cur, h1, hb, hg, rest⟩
    · exact ⟨hw2.1, .inl ⟨h1, h0⟩⟩
    · subst h1
      have hR3 : Row w3 67 2 g ws.length cap (frs ws) := (Row.of_owns hw2).congr (p4.own g hb (Row.of_owns hw2).lt (fun hx => hx))
      exact (hk3 hR3 (by decide)).owns hb
  · have hl : (s.grs ++ [(i :: st2).reverse]).length = s.grs.length + 1 := by simp
    refine ⟨us ++ [gl], by rw [hl]; exact ho, fun j c hc => ?_⟩
    have hul : us.length = s.grs.length := by have := hu2.1; omega
    have hc' : (s.grs ++ [(i :: st2).reverse])[j]? = some c := hc
    rcases Nat.lt_or_ge j s.grs.length with hj | hj
    · rw [List.getElem?_append_left hj] at hc'
      obtain ⟨u, hu, gb, cap, rfl, hrow, hb, hne⟩ := hu3 j c hc'
      exact ⟨_, by rw [List.getElem?_append_left (by omega)]; exact hu, gb, cap, rfl, hk3 hrow (by decide), hb, hne⟩
    · rw [List.getElem?_append_right hj] at hc'
      have hj0 : j = s.grs.length := by
        rcases Nat.eq_zero_or_pos (j - s.grs.length) with hz | hz
        · omega
        · rw [List.getElem?_eq_none (by simp; omega)] at hc'; cases hc'
      subst hj0
      simp only [Nat.sub_self, List.getElem?_cons_zero, Option.some.injEq] at hc'
      subst hc'
      obtain ⟨gb, cap, rfl, hb, _⟩ := p3.form (by omega)
      have hlen : (i :: st2).reverse.length = st2.length + 1 := by simp
      refine ⟨.slice (some ⟨gb, 0, none⟩) (st2.length + 1) cap, by rw [← hul]; simp, gb, cap, by rw [hlen], ?_, by have := p1.size; have := hm.mem.size; omega, fun hh => ?_⟩
      · have hR : Row w3 3 1 gb (st2.length + 1) cap (ints (ns (i :: st2).reverse)) := Row.of_owns p3
        show Row w4 3 1 gb (ns (i :: st2).reverse).length cap (ints (ns (i :: st2).reverse))
        rw [ns_length, hlen]
        exact hk3 hR (by decide)
      · simp [Value.ownBlock] at hh
        omega
  · rw [hf4.old H (Nat.le_refl _), hf.old H (Nat.le_refl _)]; exact HG.box
  · exact (HG.blw.trans (hf.below.mono (by omega))).trans (hf4.below.mono (by omega))
  · refine HIn.step ?_
    rw [e, mstep_pop hk']

end Go.Proofs.Qxb6603026a
