/-
  Contracts of cloneInts and cloneDeps.
-/
import Derived.Test.Qxb6603026aBase
import Derived.Test.Qxb6603026aRead
namespace Go.Proofs.Qxb6603026a
open Go.RowKit

/-- the call hands back a slice of ints that reads as l, in new memory or nil; nothing old has turned -/
def GivesInts (w : World) (l : List Int) (e : Ending) (w' : World) : Prop := ∃ v, e = .returned v ∧ Below w.heap.size w w' ∧ IntsIn (fun b => w.heap.size ≤ b ∧ b < w'.heap.size) w' v l
def GivesRows (w : World) (d : List (List Int)) (e : Ending) (w' : World) : Prop := ∃ v, e = .returned v ∧ Below w.heap.size w w' ∧ RowsIn (fun b => w.heap.size ≤ b ∧ b < w'.heap.size) w' v d

set_option maxHeartbeats 400000 in
theorem clone_ints (B : Nat) (w : World) (v : Value) (l : List Int) (h : IntsAt B w v l) (hB : B ≤ w.heap.size) (hn : l.length ≤ 131072) :
    Calls Try.prog 20 #[v] w fun e w' => GivesInts w l e w' := by
  obtain ⟨a, b, off, cap, rfl, hmax, ha, hc⟩ := h
  have hnil := nil26
  cases a with
  | none =>
    have hl : l.length = 0 := by
      rcases Nat.eq_zero_or_pos l.length with h | h
      · exact h
      · cases (ha h).1
    clear ha hc
    go_enter Try.func20, Try.ntmps20
    go_wp2
    go_ret
    exact ⟨.slice none 0 0, rfl, Below.refl _ _, IntsIn.nil hl⟩
  | some p =>
    have hmk := makeI l.length (by omega)
    go_enter Try.func20, Try.ntmps20
    go_wp2
    go_loopw [4] (fun i wr => ∃ k : Nat, ∃ m : List Int, k ≤ l.length ∧ i = .int .i64 k ∧ Below w.heap.size w wr ∧ IRow wr w.heap.size l.length m ∧ m.length = l.length ∧ ∀ j, j < k → at0 m j = at0 l j) (fun i _ => l.length - (intOf i).toNat)
    case atStart => exact ⟨0, _, Nat.zero_le _, rfl, (Below.refl _ _).alloc (Nat.le_refl _) _, IRow.made w l.length (by unfold maxLen; omega), by simp, fun j hj => by omega⟩
    case round =>
      obtain ⟨k, m, hk, rfl, hbl, hrow, HM, HJ⟩ := hrel
      have HM : Hid (m.length = l.length) := HM
      have HJ : Hid (∀ j, j < k → at0 m j = at0 l j) := HJ
      by_cases hlt : k < l.length
      · obtain ⟨hp, hbB⟩ := ha (by omega)
        have hcell := (hbl.cell (p := ⟨b, off + k, none⟩) (by exact Nat.lt_of_lt_of_le hbB hB)).trans (hc k hlt)
        have hcw := hrow.cell (j := k) (by have := HM.out; omega)
        have hfz := hrow.frozen k
        cases hp
        clear ha hc
        go_wp2
        go_roundw
        case rel =>
          refine ⟨k + 1, m.set k (at0 l k), by omega, by go_num, hbl.setCell (Nat.le_refl _) _, hrow.set k _, by simp [HM.out], fun j hj => ?_⟩
          rw [at0_set (by have := HM.out; omega)]
          split
          · rename_i e; rw [e]
          · exact HJ.out j (by omega)
        case measure => simp [intOf]; omega
      · have hk' : k = l.length := by omega
        subst hk'
        go_wp2
        go_ret
        have hm : m = l := at0_ext HM.out (fun j hj => HJ.out j (by have := HM.out; omega))
        subst hm
        exact ⟨_, rfl, hbl, hrow.read ⟨Nat.le_refl _, hrow.lt⟩⟩

/-- the cells of a row of slices: the first k read as the first k rows -/
def RowsSoFar (g k : Nat) (w : World) (xs : List Value) (d : List (List Int)) : Prop := ∀ j, j < k → ∃ u, xs[j]? = some u ∧ IntsIn (fun b => g < b ∧ b < w.heap.size) w u (row0 d j)

theorem RowsSoFar.step {g k : Nat} {w w' : World} {xs : List Value} {d : List (List Int)} {u : Value} (h : RowsSoFar g k w xs d) (hk : k < xs.length)
    (hb : Below w.heap.size w w') (hg : g < w.heap.size) (hu : IntsIn (fun b => w.heap.size ≤ b ∧ b < w'.heap.size) w' u (row0 d k)) :
    RowsSoFar g (k + 1) (w'.setCell ⟨g, k, none⟩ u) (xs.set k u) d := by
  have hsz : (w'.setCell ⟨g, k, none⟩ u).heap.size = w'.heap.size := by simp [World.setCell]
  intro j hj
  rw [hsz]
  by_cases e : j = k
  · subst e
    refine ⟨u, by simp [hk], ?_⟩
    refine (hu.weaken (S' := fun b => g < b ∧ b < w'.heap.size) (fun b hb' => ⟨by omega, hb'.2⟩)).same (fun b hb' => Below.heap_setCell _ _ _ _ (by show b ≠ g; omega))
  · obtain ⟨u', h1, h2⟩ := h j (by omega)
    refine ⟨u', by simp [Ne.symm e, h1], ?_⟩
    have hs := hb.size
    refine ((h2.same (fun b hb' => hb.block b hb'.2)).weaken (S' := fun b => g < b ∧ b < w'.heap.size) (fun b hb' => ⟨hb'.1, by omega⟩)).same (fun b hb' => Below.heap_setCell _ _ _ _ (by show b ≠ g; omega))

set_option maxHeartbeats 400000 in
theorem clone_deps (B : Nat) (w : World) (v : Value) (d : List (List Int)) (h : RowsAt B w v d) (hB : B ≤ w.heap.size) (hn : wordsOf d ≤ 131072) :
    Calls Try.prog 12 #[v] w fun e w' => GivesRows w d e w' := by
  have HW : Hid (∀ k, k < d.length → (row0 d k).length ≤ 131072) := fun k hk => by
    have h1 := wordsTo_mono d (j := k + 1) (k := d.length) (by omega)
    simp only [wordsTo] at h1
    unfold wordsOf at hn
    omega
  have hd : d.length ≤ 131072 := by
    have h1 := wordsTo_mono d (j := 0) (k := d.length) (by omega)
    simp only [wordsTo] at h1
    unfold wordsOf at hn
    omega
  clear hn
  obtain ⟨a, b, off, cap, vs, rfl, hmax, ha, hc⟩ := h
  have hnil := nil22
  cases a with
  | none =>
    have hl : d.length = 0 := by
      rcases Nat.eq_zero_or_pos d.length with h | h
      · exact h
      · cases (ha h).1
    clear ha hc
    go_enter Try.func12, Try.ntmps12
    go_wp2
    go_ret
    exact ⟨.slice none 0 0, rfl, Below.refl _ _, none, 0, 0, 0, fun _ => undef, by rw [hl], by omega, fun h => by omega, fun k hk => by omega⟩
  | some p =>
    have hmk := makeS d.length (by omega)
    go_enter Try.func12, Try.ntmps12
    go_wp2
    go_loopw [4] (fun i wr => ∃ k : Nat, ∃ xs : List Value, k ≤ d.length ∧ i = .int .i64 k ∧ Below w.heap.size w wr ∧ Row wr 26 1 w.heap.size d.length d.length xs ∧ RowsSoFar w.heap.size k wr xs d) (fun i _ => d.length - (intOf i).toNat)
    case atStart =>
      refine ⟨0, _, Nat.zero_le _, rfl, (Below.refl _ _).alloc (Nat.le_refl _) _, World.ownsRow_lit (base := 0) (e := 26) (size := 1) w _ d.length (Nat.zero_le _) hmax (by rw [size_madeCells]; omega), fun j hj => by omega⟩
    case round =>
      obtain ⟨k, xs, hk, rfl, hbl, hrow, HS⟩ := hrel
      have HS : Hid (RowsSoFar w.heap.size k wr xs d) := HS
      have hlen := hrow.length
      have HL : Hid (xs.length = d.length) := by have := hrow.length; show xs.length = d.length; omega
      clear hlen
      by_cases hlt : k < d.length
      · obtain ⟨hp, hbB⟩ := ha (by omega)
        obtain ⟨hcv, hiv⟩ := hc k hlt
        have hcell := (hbl.cell (p := ⟨b, off + k, none⟩) (by exact Nat.lt_of_lt_of_le hbB hB)).trans hcv
        have hiv' : IntsAt B wr (vs k) (row0 d k) := IntsAt.below hiv (hbl.mono hB)
        have hwk := HW.out k hlt
        cases hp
        clear ha hc hcv hiv
        go_wp2_with fail
        refine (clone_ints B _ _ _ hiv' (Nat.le_trans hB hbl.size) hwk).mono ?_
        rintro e w1 ⟨u, rfl, hb1, hu⟩
        have hrow1 := hrow.below hb1 hrow.lt
        obtain ⟨u0, hcw⟩ := hrow1.cellEx (j := k) (by omega)
        have hfz := hrow1.frozen k
        obtain ⟨a2, cap2, rfl⟩ := hu.form
        have HU : Hid _ := hu
        clear hu hcell hiv'
        go_wp2
        go_roundw
        case rel =>
          refine ⟨k + 1, xs.set k _, by omega, by go_num, (hbl.trans (hb1.mono hbl.size)).setCell (Nat.le_refl _) _, hrow1.set k _, HS.out.step (by rw [HL.out]; exact hlt) hb1 hrow.lt HU.out⟩
        case measure => simp [intOf]; omega
      · have hk' : k = d.length := by omega
        subst hk'
        go_wp2
        go_ret
        refine ⟨_, rfl, hbl, _, w.heap.size, 0, _, fun j => xs.getD j undef, rfl, hmax, fun _ => ⟨rfl, Nat.le_refl _, hrow.lt⟩, fun i hi => ?_⟩
        obtain ⟨u, h1, h2⟩ := HS.out i hi
        have h3 := hrow.cell (j := i) (by omega)
        rw [h1] at h3
        simp only [Nat.zero_add, List.getD_eq_getElem?_getD, h1, Option.getD_some]
        exact ⟨h3, h2.weaken (fun b hb => ⟨by omega, hb.2⟩)⟩

end Go.Proofs.Qxb6603026a
