/-
  ZZGroups (function 13) and groupOf (function 18): their contracts.
-/
import Derived.Test.Qxb6603026aGroups
import Derived.Test.Qxb6603026aScc
namespace Go.Proofs.Qxb6603026a
open Go.RowKit
set_option linter.unusedSimpArgs false

set_option maxRecDepth 100000 in
set_option maxHeartbeats 400000 in
theorem zzgroups_any (B : Nat) (w : World) (dv : Value) (d : List (List Int)) (hd : RowsAt B w dv d) (hB : B ≤ w.heap.size) (hn : d.length ≤ 65536) (hw : wordsOf d ≤ 131072) (hr : InRange d) :
    Calls Try.prog 13 #[dv] w fun e w' => GroupsSaid d w e w' := by
  have hcall := fun a b => groups_any B w a b dv d hd hB hn hw hr
  have HC : Hid _ := hcall
  have hform : ∃ a cap, dv = .slice a d.length cap := by
    obtain ⟨a, b, off, cap, vs, h1, _⟩ := hd
    exact ⟨a, cap, h1⟩
  obtain ⟨a, cap, rfl⟩ := hform
  clear hcall
  go_enter Try.func13, Try.ntmps13
  go_wp2_with fail
  refine Calls.mono (HC.out _ _) ?_
  rintro e w' ⟨gv, s, rfl, rest⟩
  have R : GroupsSaid d w (.returned gv) w' := ⟨gv, s, rfl, rest⟩
  have HR : Hid _ := R
  clear R rest HC
  go_wp2
  go_ret
  exact HR.out

theorem row0_map {gs : List (List Nat)} {i : Nat} {c : List Nat} (h : gs[i]? = some c) : row0 (gs.map ns) i = ns c := by
  simp [row0, h]

/-- what groupOf hands back -/
def GroupOfSaid (w : World) (n : Nat) (gs : List (List Nat)) (e : Ending) (w' : World) : Prop :=
  ∃ v, e = .returned (.tuple #[v, .bool true]) ∧ Below w.heap.size w w' ∧ IntsIn (fun b => w.heap.size ≤ b ∧ b < w'.heap.size) w' v (fl n (whr gs))

/-- the numbers that groupOf has laid: the groups before g, and the first k of group g -/
def Laid (n : Nat) (gs : List (List Nat)) (g : Nat) (cur : List Nat) (m : List Int) : Prop :=
  m.length = n ∧ (∀ (v j : Nat) (c : List Nat), j < g → gs[j]? = some c → v ∈ c → at0 m v = (j : Int)) ∧ (∀ v, v ∈ cur → at0 m v = (g : Int)) ∧
    ∀ v, v < n → (∀ (j : Nat) (c : List Nat), j < g → gs[j]? = some c → v ∉ c) → v ∉ cur → at0 m v = -1

theorem mem_take_succ {c : List Nat} {k v : Nat} (hk : k < c.length) : v ∈ c.take (k + 1) ↔ v ∈ c.take k ∨ v = c[k] := by
  rw [List.take_succ_eq_append_getElem hk, List.mem_append, List.mem_singleton]

theorem Laid.step {gr : Gr} {gs : List (List Nat)} (h : Scc gr gs) {g k : Nat} {c : List Nat} {m : List Int} (hc : gs[g]? = some c) (hk : k < c.length) (hl : Laid gr.n gs g (c.take k) m) :
    at0 m c[k] = -1 ∧ Laid gr.n gs g (c.take (k + 1)) (m.set c[k] (g : Int)) := by
  obtain ⟨h0, h1, h2, h3⟩ := hl
  have hmem : c[k] ∈ c := List.getElem_mem hk
  have hlt := h.lt g c hc _ hmem
  have hnew : c[k] ∉ c.take k := by
    intro hm
    obtain ⟨i, hi, e⟩ := List.mem_iff_getElem.1 hm
    rw [List.getElem_take] at e
    have hi' : i < k := by simp at hi; omega
    have := (List.nodup_iff_pairwise_ne.1 (h.nd g c hc))
    exact (List.pairwise_iff_getElem.1 this i k (by omega) hk hi') e
  have hother : ∀ (j : Nat) (c' : List Nat), j < g → gs[j]? = some c' → c[k] ∉ c' := fun j c' hj hc' hm => by
    have := h.one j g c' c _ hc' hc hm hmem
    omega
  refine ⟨h3 _ hlt hother hnew, by simpa using h0, fun v j c' hj hc' hv => ?_, fun v hv => ?_, fun v hv ho hn => ?_⟩
  · rw [at0_set_other (fun e => hother j c' hj hc' (by rw [← e]; exact hv))]
    exact h1 v j c' hj hc' hv
  · rcases (mem_take_succ hk).1 hv with hv | rfl
    · rw [at0_set_other (fun e => hnew (by rw [← e]; exact hv))]; exact h2 v hv
    · exact at0_set_self (by omega)
  · have hne : v ≠ c[k] := fun e => hn ((mem_take_succ hk).2 (.inr e))
    rw [at0_set_other hne]
    exact h3 v hv ho (fun hm => hn ((mem_take_succ hk).2 (.inl hm)))
theorem Laid.next {gr : Gr} {gs : List (List Nat)} {g : Nat} {c : List Nat} {m : List Int} (hc : gs[g]? = some c) (hl : Laid gr.n gs g c m) : Laid gr.n gs (g + 1) [] m := by
  obtain ⟨h0, h1, h2, h3⟩ := hl
  refine ⟨h0, fun v j c' hj hc' hv => ?_, by simp, fun v hv ho _ => ?_⟩
  · by_cases e : j = g
    · subst e; rw [hc] at hc'; cases hc'; exact h2 v hv
    · exact h1 v j c' (by omega) hc' hv
  · exact h3 v hv (fun j c' hj => ho j c' (by omega)) (ho g c (by omega) hc)
theorem Laid.done {gr : Gr} {gs : List (List Nat)} (h : Scc gr gs) {m : List Int} (hl : Laid gr.n gs gs.length [] m) : m = fl gr.n (whr gs) := by
  obtain ⟨h0, h1, h2, h3⟩ := hl
  apply at0_ext (by rw [h0, fl_length])
  intro v hv
  rw [h0] at hv
  rw [at0_fl _ hv]
  obtain ⟨c, hc, hm⟩ := h.whr_mem hv
  exact h1 v _ c (h.whr_lt hv) hc hm

set_option maxHeartbeats 1000000 in
theorem groupOf_any (B : Nat) (w : World) (gv : Value) (gr : Gr) (gs : List (List Nat)) (h : Scc gr gs) (hg : RowsAt B w gv (gs.map ns)) (hB : B ≤ w.heap.size) (hn : gr.n ≤ 65536) :
    Calls Try.prog 18 #[gv, .int .i64 (gr.n : Int)] w fun e w' => GroupOfSaid w gr.n gs e w' := by
  obtain ⟨a, b, off, cap, vs, rfl, hmax, ha, hc⟩ := hg
  have hlen : (gs.map ns).length = gs.length := by simp
  rw [hlen] at hmax ha
  simp only [hlen] at hc
  rw [hlen]
  clear hlen
  unfold maxLen at hmax
  have hmk := makeI gr.n (by omega)
  go_enter Try.func18, Try.ntmps18
  go_wp2
  go_loopw [7] (fun i wr => ∃ k : Nat, ∃ m : List Int, k ≤ gr.n ∧ i = .int .i64 k ∧ Below w.heap.size w wr ∧ IRow wr w.heap.size gr.n m ∧ m.length = gr.n ∧ ∀ j, j < k → at0 m j = -1) (fun i _ => gr.n - (intOf i).toNat)
  case atStart => exact ⟨0, _, Nat.zero_le _, rfl, (Below.refl _ _).alloc (Nat.le_refl _) _, IRow.made w gr.n (by unfold maxLen; omega), by simp, fun j hj => by omega⟩
  case round =>
    obtain ⟨k, m, hk, rfl, hbl, hrow, HM, HJ⟩ := hrel
    have HM : Hid (m.length = gr.n) := HM
    have HJ : Hid (∀ j, j < k → at0 m j = -1) := HJ
    by_cases hlt : k < gr.n
    · have hcw := hrow.cell (j := k) (by have := HM.out; omega)
      have hfz := hrow.frozen k
      clear hmk ha hc
      go_wp2
      go_roundw
      case rel =>
        refine ⟨k + 1, m.set k (-1), by omega, by go_num, hbl.setCell (Nat.le_refl _) _, hrow.set k _, by simp [HM.out], fun j hj => ?_⟩
        rw [at0_set (by have := HM.out; omega)]
        split
        · rfl
        · exact HJ.out j (by omega)
      case measure => simp [intOf]; omega
    · have hk' : k = gr.n := by omega
      subst hk'
      have hl0 : Laid gr.n gs 0 [] m := ⟨HM.out, fun v j c hj => by omega, by simp, fun v hv _ _ => HJ.out v hv⟩
      have HL0 : Hid _ := hl0
      clear hl0 hmk
      go_wp2
      go_loopw [8] (fun i wr => ∃ g : Nat, ∃ m : List Int, g ≤ gs.length ∧ i = .int .i64 g ∧ Below w.heap.size w wr ∧ IRow wr w.heap.size gr.n m ∧ Laid gr.n gs g [] m) (fun i _ => gs.length - (intOf i).toNat)
      case atStart => exact ⟨0, m, Nat.zero_le _, rfl, hbl, hrow, HL0.out⟩
      case round =>
        clear HL0 hbl hrow HM HJ
        obtain ⟨g, m2, hg2, rfl, hbl, hrow, HL⟩ := hrel
        have HL : Hid (Laid gr.n gs g [] m2) := HL
        by_cases hlg : g < gs.length
        · obtain ⟨c, hgc⟩ : ∃ c, gs[g]? = some c := ⟨gs[g], List.getElem?_eq_getElem hlg⟩
          obtain ⟨hp, hbB⟩ := ha (by omega)
          obtain ⟨hcv, hiv⟩ := hc g hlg
          have hcell := (hbl.cell (p := ⟨b, off + g, none⟩) (by exact Nat.lt_of_lt_of_le hbB hB)).trans hcv
          rw [row0_map hgc] at hiv
          have hiv' := IntsAt.below hiv (hbl.mono hB)
          obtain ⟨a1, b1, off1, cap1, hv1, hm1, ha1, hc1⟩ := hiv
          rw [ns_length] at hv1 hm1 ha1
          simp only [ns_length] at hc1
          rw [hv1] at hcell
          have hcl : c.length ≤ 65536 := by
            have := length_le_of_nodup (h.nd g c hgc) (m := List.range gr.n) (fun v hv => List.mem_range.2 (h.lt g c hgc v hv))
            simp at this; omega
          have hcpos : 0 < c.length := List.length_pos_iff.2 (h.ne g c hgc)
          have hz : ((c.length : Int) == 0) = false := by
            rw [beq_eq_false_iff_ne]; omega
          obtain ⟨hp1, hbB1⟩ := ha1 hcpos
          have HGC : Hid _ := hgc
          have hp' := hp
          cases hp
          cases hp1
          clear ha ha1 hcv hgc
          go_wp2
          go_loopw [10] (fun kv wr => ∃ k : Nat, ∃ m : List Int, k ≤ c.length ∧ kv = .int .i64 k ∧ Below w.heap.size w wr ∧ IRow wr w.heap.size gr.n m ∧ Laid gr.n gs g (c.take k) m) (fun kv _ => c.length - (intOf kv).toNat)
          case atStart => exact ⟨0, m2, Nat.zero_le _, rfl, hbl, hrow, HL.out⟩
          case round =>
            clear HL hbl hrow hcell hiv'
            obtain ⟨k, m3, hk3, rfl, hbl, hrow, HL⟩ := hrel
            have HL : Hid (Laid gr.n gs g (c.take k) m3) := HL
            by_cases hlk : k < c.length
            · have hck := (hbl.cell (p := ⟨b1, off1 + k, none⟩) (by exact Nat.lt_of_lt_of_le hbB1 hB)).trans (hc1 k hlk)
              rw [at0_ns hlk] at hck
              obtain ⟨hm1', hL'⟩ := Laid.step h HGC.out hlk HL.out
              have hvn := h.lt g c HGC.out _ (List.getElem_mem hlk)
              obtain ⟨v, HV⟩ : ∃ v, v = c[k] := ⟨_, rfl⟩
              rw [← HV] at hck hm1' hL' hvn
              have hrc := hrow.cell (j := v) (by have := HL.out.1; omega)
              rw [hm1'] at hrc
              have hfz := hrow.frozen v
              have v0 : (0 : Int) ≤ (v : Int) := by omega
              have v1 : (v : Int) < (gr.n : Int) := by omega
              have HL' : Hid _ := hL'
              clear hL' hm1' HV hc hc1
              go_wp2
              go_roundw
              case rel => exact ⟨k + 1, _, by omega, by go_num, hbl.setCell (Nat.le_refl _) _, hrow.set v _, HL'.out⟩
              case measure => simp [intOf]; omega
            · have hk' : k = c.length := by omega
              subst hk'
              have hL2 : Laid gr.n gs g c m3 := by have := HL.out; rwa [List.take_length] at this
              have HL2 : Hid _ := Laid.next HGC.out hL2
              clear hL2
              go_wp2
              go_roundw
              case rel => exact ⟨g + 1, m3, by omega, by go_num, hbl, hrow, HL2.out⟩
              case measure => simp [intOf]; omega
        · have hg' : g = gs.length := by omega
          subst hg'
          have hm := Laid.done h HL.out
          subst hm
          clear ha hc
          go_wp2
          go_loopw [12] (fun kv wr => ∃ k : Nat, k ≤ gr.n ∧ kv = .int .i64 k ∧ Below w.heap.size w wr ∧ IRow wr w.heap.size gr.n (fl gr.n (whr gs))) (fun kv _ => gr.n - (intOf kv).toNat)
          case atStart => exact ⟨0, Nat.zero_le _, rfl, hbl, hrow⟩
          case round =>
            clear HL hbl hrow
            obtain ⟨k, hk4, rfl, hbl, hrow⟩ := hrel
            by_cases hlk : k < gr.n
            · have hck := hrow.cell (j := k) (by rw [fl_length]; exact hlk)
              rw [at0_fl _ hlk] at hck
              go_wp2
              go_roundw
              case rel => exact ⟨k + 1, by omega, by go_num, hbl, hrow⟩
              case measure => simp [intOf]; omega
            · go_wp2
              go_ret2
              have := hrow.read (S := fun b => w.heap.size ≤ b ∧ b < wr.heap.size) ⟨Nat.le_refl _, hrow.lt⟩
              rw [fl_length] at this
              exact ⟨_, rfl, hbl, this⟩

end Go.Proofs.Qxb6603026a
