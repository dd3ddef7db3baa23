/-
  Contracts of the functions that only read their argument: the three zzBytes, wordsOf, depsInRange, hasEdge, sameInts.
-/
import Derived.Test.Qxb6603026aRows
import Derived.Test.Qxb6603026aMem
namespace Go.Proofs.Qxb6603026a
open Go.RowKit

/-- the call returns a bool -/
def IsBool (e : Ending) : Prop := ∃ b, e = .returned (.bool b)
theorem IsBool.mk (b : Bool) : IsBool (.returned (.bool b)) := ⟨b, rfl⟩

set_option maxHeartbeats 400000 in
theorem bytes9 (B : Nat) (w : World) (v : Value) (d : List (List Int)) (h : RowsAt B w v d) :
    Calls Try.prog 9 #[v] w fun e w' => IsBool e ∧ w' = w := by
  obtain ⟨a, b, off, cap, vs, rfl, hmax, ha, hc⟩ := h
  unfold maxLen at hmax
  by_cases h0 : d.length ≤ 1048576
  · go_enter Try.func9, Try.ntmps9
    go_wp2
    go_loop [3, 4] (fun z i => ∃ k : Nat, ∃ q : Int, k ≤ d.length ∧ i = .int .i64 k ∧ 0 ≤ q ∧ q ≤ 1048576 ∧ z = .int .i64 q) (fun _ i => d.length - (intOf i).toNat)
    case atStart => exact ⟨0, _, Nat.zero_le _, rfl, by omega, by omega, rfl⟩
    case round =>
      obtain ⟨k, q, hk, rfl, hq0, hq1, rfl⟩ := hrel
      by_cases hlt : k < d.length
      · obtain ⟨rfl, hbB⟩ := ha (by omega)
        obtain ⟨hcell, a', b', off', cap', hv, hm', _, _⟩ := hc k hlt
        rw [hv] at hcell
        clear hc ha
        unfold maxLen at hm'
        go_wp2
        · go_ret
          exact ⟨IsBool.mk _, rfl⟩
        · go_ret
          exact ⟨IsBool.mk _, rfl⟩
        · go_round
          case rel => exact ⟨k + 1, _, by omega, by go_num, by omega, by omega, rfl⟩
          case measure => simp [intOf]; omega
      · go_wp2
        go_ret
        exact ⟨IsBool.mk _, rfl⟩
  · go_enter Try.func9, Try.ntmps9
    go_wp2
    go_ret
    exact ⟨IsBool.mk _, rfl⟩

set_option maxHeartbeats 400000 in
theorem bytes17 (B : Nat) (w : World) (v : Value) (d : List (List Int)) (h : RowsAt B w v d) :
    Calls Try.prog 17 #[v] w fun e w' => IsBool e ∧ w' = w := by
  obtain ⟨a, b, off, cap, vs, rfl, hmax, ha, hc⟩ := h
  unfold maxLen at hmax
  by_cases h0 : d.length ≤ 1048576
  · go_enter Try.func17, Try.ntmps17
    go_wp2
    go_loop [3, 4] (fun z i => ∃ k : Nat, ∃ q : Int, k ≤ d.length ∧ i = .int .i64 k ∧ 0 ≤ q ∧ q ≤ 1048576 ∧ z = .int .i64 q) (fun _ i => d.length - (intOf i).toNat)
    case atStart => exact ⟨0, _, Nat.zero_le _, rfl, by omega, by omega, rfl⟩
    case round =>
      obtain ⟨k, q, hk, rfl, hq0, hq1, rfl⟩ := hrel
      by_cases hlt : k < d.length
      · obtain ⟨rfl, hbB⟩ := ha (by omega)
        obtain ⟨hcell, a', b', off', cap', hv, hm', _, _⟩ := hc k hlt
        rw [hv] at hcell
        clear hc ha
        unfold maxLen at hm'
        go_wp2
        · go_ret
          exact ⟨IsBool.mk _, rfl⟩
        · go_ret
          exact ⟨IsBool.mk _, rfl⟩
        · go_round
          case rel => exact ⟨k + 1, _, by omega, by go_num, by omega, by omega, rfl⟩
          case measure => simp [intOf]; omega
      · go_wp2
        go_ret
        exact ⟨IsBool.mk _, rfl⟩
  · go_enter Try.func17, Try.ntmps17
    go_wp2
    go_ret
    exact ⟨IsBool.mk _, rfl⟩

set_option maxHeartbeats 400000 in
theorem bytes23 (B : Nat) (w : World) (v : Value) (d : List (List Int)) (h : RowsAt B w v d) :
    Calls Try.prog 23 #[v] w fun e w' => IsBool e ∧ w' = w := by
  obtain ⟨a, b, off, cap, vs, rfl, hmax, ha, hc⟩ := h
  unfold maxLen at hmax
  by_cases h0 : d.length ≤ 1048576
  · go_enter Try.func23, Try.ntmps23
    go_wp2
    go_loop [3, 4] (fun z i => ∃ k : Nat, ∃ q : Int, k ≤ d.length ∧ i = .int .i64 k ∧ 0 ≤ q ∧ q ≤ 1048576 ∧ z = .int .i64 q) (fun _ i => d.length - (intOf i).toNat)
    case atStart => exact ⟨0, _, Nat.zero_le _, rfl, by omega, by omega, rfl⟩
    case round =>
      obtain ⟨k, q, hk, rfl, hq0, hq1, rfl⟩ := hrel
      by_cases hlt : k < d.length
      · obtain ⟨rfl, hbB⟩ := ha (by omega)
        obtain ⟨hcell, a', b', off', cap', hv, hm', _, _⟩ := hc k hlt
        rw [hv] at hcell
        clear hc ha
        unfold maxLen at hm'
        go_wp2
        · go_ret
          exact ⟨IsBool.mk _, rfl⟩
        · go_ret
          exact ⟨IsBool.mk _, rfl⟩
        · go_round
          case rel => exact ⟨k + 1, _, by omega, by go_num, by omega, by omega, rfl⟩
          case measure => simp [intOf]; omega
      · go_wp2
        go_ret
        exact ⟨IsBool.mk _, rfl⟩
  · go_enter Try.func23, Try.ntmps23
    go_wp2
    go_ret
    exact ⟨IsBool.mk _, rfl⟩

/-- how many words: one a step, one a dependency, over the first k rows -/
def wordsTo (d : List (List Int)) : Nat → Nat
  | 0 => d.length
  | k + 1 => wordsTo d k + (row0 d k).length
def wordsOf (d : List (List Int)) : Nat := wordsTo d d.length
theorem wordsTo_mono (d : List (List Int)) {j k : Nat} (h : j ≤ k) : wordsTo d j ≤ wordsTo d k := by
  induction k with
  | zero => have : j = 0 := by omega
            subst this; exact Nat.le_refl _
  | succ k ih =>
    by_cases e : j = k + 1
    · subst e; exact Nat.le_refl _
    · have := ih (by omega)
      simp only [wordsTo]
      omega

/-- what wordsOf answers at the limit 131072 -/
def WordsSaid (d : List (List Int)) (e : Ending) : Prop := ∃ t : Int, e = .returned (.int .i64 t) ∧ (t ≤ 131072 → wordsOf d ≤ 131072)

set_option maxHeartbeats 400000 in
theorem words_any (B : Nat) (w : World) (v : Value) (d : List (List Int)) (h : RowsAt B w v d) :
    Calls Try.prog 10 #[v, .int .i64 131072] w fun e w' => WordsSaid d e ∧ w' = w := by
  obtain ⟨a, b, off, cap, vs, rfl, hmax, ha, hc⟩ := h
  unfold maxLen at hmax
  by_cases h0 : d.length ≤ 131072
  · go_enter Try.func10, Try.ntmps10
    go_wp2
    go_loop [5, 6] (fun z i => ∃ k : Nat, k ≤ d.length ∧ i = .int .i64 k ∧ wordsTo d k ≤ 131072 ∧ z = .int .i64 (wordsTo d k)) (fun _ i => d.length - (intOf i).toNat)
    case atStart => exact ⟨0, Nat.zero_le _, rfl, h0, rfl⟩
    case round =>
      obtain ⟨k, hk, rfl, hq, rfl⟩ := hrel
      by_cases hlt : k < d.length
      · obtain ⟨rfl, hbB⟩ := ha (by omega)
        obtain ⟨hcell, a', b', off', cap', hv, hm', _, _⟩ := hc k hlt
        rw [hv] at hcell
        clear hc ha
        unfold maxLen at hm'
        have HS : Hid (wordsTo d (k + 1) = wordsTo d k + (row0 d k).length) := rfl
        go_wp2
        · go_ret
          exact ⟨⟨131073, rfl, fun h => by omega⟩, rfl⟩
        · go_round
          case rel => exact ⟨k + 1, by omega, by go_num, by rw [HS.out]; omega, by rw [HS.out]; go_num⟩
          case measure => simp [intOf]; omega
      · have hk' : k = d.length := by omega
        subst hk'
        go_wp2
        go_ret
        exact ⟨⟨_, rfl, fun _ => hq⟩, rfl⟩
  · go_enter Try.func10, Try.ntmps10
    go_wp2
    go_ret
    exact ⟨⟨131073, rfl, fun h => by omega⟩, rfl⟩

/-- every dependency names a step -/
def InRange (d : List (List Int)) : Prop := ∀ i, i < d.length → ∀ k, k < (row0 d i).length → 0 ≤ at0 (row0 d i) k ∧ at0 (row0 d i) k < d.length
def RangeSaid (d : List (List Int)) (e : Ending) : Prop := ∃ b, e = .returned (.bool b) ∧ (b = true → InRange d)

set_option maxHeartbeats 400000 in
theorem range_any (B : Nat) (w : World) (v : Value) (d : List (List Int)) (h : RowsAt B w v d) :
    Calls Try.prog 11 #[v] w fun e w' => RangeSaid d e ∧ w' = w := by
  obtain ⟨a, b, off, cap, vs, rfl, hmax, ha, hc⟩ := h
  unfold maxLen at hmax
  go_enter Try.func11, Try.ntmps11
  go_wp2
  go_loop [4] (fun i => ∃ m : Nat, m ≤ d.length ∧ i = .int .i64 m ∧ ∀ i, i < m → ∀ k, k < (row0 d i).length → 0 ≤ at0 (row0 d i) k ∧ at0 (row0 d i) k < d.length) (fun i => d.length - (intOf i).toNat)
  case atStart => exact ⟨0, Nat.zero_le _, rfl, fun i hi => absurd hi (Nat.not_lt_zero _)⟩
  case round =>
    obtain ⟨m, hm, rfl, hall⟩ := hrel
    have HA : Hid _ := hall
    clear hall
    by_cases hlt : m < d.length
    · obtain ⟨rfl, hbB⟩ := ha (by omega)
      obtain ⟨hcell, a', b', off', cap', hv, hm', ha', hc'⟩ := hc m hlt
      rw [hv] at hcell
      clear hc ha
      unfold maxLen at hm'
      go_wp2
      go_loop [6] (fun k => ∃ q : Nat, q ≤ (row0 d m).length ∧ k = .int .i64 q ∧ ∀ k, k < q → 0 ≤ at0 (row0 d m) k ∧ at0 (row0 d m) k < d.length) (fun k => (row0 d m).length - (intOf k).toNat)
      case atStart => exact ⟨0, Nat.zero_le _, rfl, fun i hi => absurd hi (Nat.not_lt_zero _)⟩
      case round =>
        obtain ⟨q, hq, rfl, hall⟩ := hrel
        have HB : Hid _ := hall
        clear hall
        by_cases hlq : q < (row0 d m).length
        · obtain ⟨rfl, hbB'⟩ := ha' (by omega)
          have hcc := hc' q hlq
          clear hc' ha'
          by_cases h0 : at0 (row0 d m) q < 0
          · go_wp2
            go_ret
            exact ⟨⟨_, rfl, fun h => by cases h⟩, rfl⟩
          · by_cases h1 : at0 (row0 d m) q < d.length
            · go_wp2
              go_round
              case rel =>
                refine ⟨q + 1, by omega, by go_num, fun k hk => ?_⟩
                by_cases e : k = q
                · subst e; omega
                · exact HB.out k (by omega)
              case measure => simp [intOf]; omega
            · go_wp2
              go_ret
              exact ⟨⟨_, rfl, fun h => by cases h⟩, rfl⟩
        · have hq' : q = (row0 d m).length := by omega
          subst hq'
          go_wp2
          go_round
          case rel =>
            refine ⟨m + 1, by omega, by go_num, fun i hi => ?_⟩
            by_cases e : i = m
            · subst e; exact HB.out
            · exact HA.out i (by omega)
          case measure => simp [intOf]; omega
    · have hm' : m = d.length := by omega
      subst hm'
      go_wp2
      go_ret
      exact ⟨⟨_, rfl, fun _ => HA.out⟩, rfl⟩

end Go.Proofs.Qxb6603026a
