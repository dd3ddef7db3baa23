/-
  Contracts of the four plain functions of the seat (zzB1ValidTrail, zzB1ValidCode, twoBytePlace, twoByteCode) and of the two shims.
-/
import Derived.Test.Qxb6602817aRows
import Derived.WalkKit
import Derived.ProofKit
import Derived.OpenShut
namespace Go.Proofs.Qxb6602817a
open Go.ChangeShapes Go.WideShapes Go.ChangeAt Go.RowKit

/-- a trail byte of a two-byte code -/
def vtB (t : Int) : Bool := decide (64 ≤ t) && decide (t ≤ 254) && !(t == 127)
/-- a two-byte code -/
def vcB (l t : Int) : Bool := decide (129 ≤ l) && decide (l ≤ 254) && vtB t
/-- the place of a two-byte code -/
def placeF (l t : Int) : Int := (l - 129) * 190 + (if 127 < t then t - 65 else t - 64)
/-- the trail byte of the code at a place -/
def trailF (p : Int) : Int := if 63 ≤ p % 190 then 65 + p % 190 else 64 + p % 190

theorem vtB_true {t : Int} : vtB t = true ↔ 64 ≤ t ∧ t ≤ 254 ∧ t ≠ 127 := by
  simp [vtB, and_assoc]
theorem vtB_false {t : Int} : vtB t = false ↔ t < 64 ∨ 254 < t ∨ t = 127 := by
  rw [← Bool.not_eq_true, vtB_true]; omega
theorem vcB_true {l t : Int} : vcB l t = true ↔ 129 ≤ l ∧ l ≤ 254 ∧ 64 ≤ t ∧ t ≤ 254 ∧ t ≠ 127 := by
  simp [vcB, vtB_true, and_assoc]

theorem vcB_false {l t : Int} (h : l < 129 ∨ 254 < l) : vcB l t = false := by
  rw [← Bool.not_eq_true, vcB_true]; omega

theorem ret_bool {a b : Bool} (h : a = b) : Ending.returned (.bool a) = .returned (.bool b) := by rw [h]
theorem ret_int {k : IntKind} {a b : Int} (h : a = b) : Ending.returned (.int k a) = .returned (.int k b) := by rw [h]

set_option maxHeartbeats 400000 in
theorem trail_any (t : Int) (w : World) :
    Calls Try.prog 10 #[.int .i64 t] w fun e w' => e = .returned (.bool (vtB t)) ∧ w' = w := by
  by_cases h1 : 64 ≤ t
  · by_cases h2 : t ≤ 254
    · go_enter Try.func10, Try.ntmps10
      go_wp2
      go_ret
      exact ⟨ret_bool (by simp [vtB, h1, h2, bne]), rfl⟩
    · go_enter Try.func10, Try.ntmps10
      go_wp2
      go_ret
      exact ⟨ret_bool (vtB_false.2 (by omega)).symm, rfl⟩
  · go_enter Try.func10, Try.ntmps10
    go_wp2
    go_ret
    exact ⟨ret_bool (vtB_false.2 (by omega)).symm, rfl⟩

set_option maxHeartbeats 400000 in
theorem valid_any (l t : Int) (hl : 0 ≤ l) (hl' : l ≤ 255) (ht : 0 ≤ t) (ht' : t ≤ 255) (w : World) :
    Calls Try.prog 8 #[.int .u8 l, .int .u8 t] w fun e w' => e = .returned (.bool (vcB l t)) ∧ w' = w := by
  by_cases h1 : 129 ≤ l
  · by_cases h2 : l ≤ 254
    · go_enter Try.func8, Try.ntmps8
      go_wp2_with (go_at_call 10; refine (trail_any _ _).mono ?_; rintro e w' ⟨rfl, rfl⟩)
      go_ret
      exact ⟨ret_bool (by simp [vcB, h1, h2]), rfl⟩
    · go_enter Try.func8, Try.ntmps8
      go_wp2
      go_ret
      exact ⟨ret_bool (vcB_false (by omega)).symm, rfl⟩
  · go_enter Try.func8, Try.ntmps8
    go_wp2
    go_ret
    exact ⟨ret_bool (vcB_false (by omega)).symm, rfl⟩

set_option maxHeartbeats 400000 in
theorem place_any (l t : Int) (hl : 129 ≤ l) (hl' : l ≤ 254) (ht : 64 ≤ t) (ht' : t ≤ 254) (w : World) :
    Calls Try.prog 12 #[.int .u8 l, .int .u8 t] w fun e w' => e = .returned (.int .i64 (placeF l t)) ∧ w' = w := by
  by_cases h1 : 127 < t
  · go_enter Try.func12, Try.ntmps12
    go_wp2
    go_ret
    exact ⟨ret_int (by unfold placeF; rw [if_pos h1]; omega), rfl⟩
  · go_enter Try.func12, Try.ntmps12
    go_wp2
    go_ret
    exact ⟨ret_int (by unfold placeF; rw [if_neg (by omega)]), rfl⟩

theorem zzplace_any (l t : Int) (hl : 129 ≤ l) (hl' : l ≤ 254) (ht : 64 ≤ t) (ht' : t ≤ 254) (w : World) :
    Calls Try.prog 9 #[.int .u8 l, .int .u8 t] w fun e w' => e = .returned (.int .i64 (placeF l t)) ∧ w' = w := by
  go_enter Try.func9, Try.ntmps9
  go_wp2_with (go_at_call 12; refine (place_any _ _ hl hl' ht ht' _).mono ?_; rintro e w' ⟨rfl, rfl⟩)
  go_ret
  exact ⟨rfl, rfl⟩

theorem trailF_hi {p : Int} (h : 63 ≤ p % 190) : 64 + p % 190 + 1 = trailF p := by unfold trailF; rw [if_pos h]; omega
theorem trailF_lo {p : Int} (h : p % 190 < 63) : 64 + p % 190 = trailF p := by unfold trailF; rw [if_neg (by omega)]
theorem ret_agg {k : IntKind} {a b b' : Int} (h : b = b') : Ending.returned (.agg #[.int k a, .int k b]) = .returned (.agg #[.int k a, .int k b']) := by rw [h]

/-- the two cells of the code at place 'p' -/
def codeObj (p : Int) : Obj := .cells #[.int .u8 (129 + p / 190), .int .u8 (trailF p)] 26
theorem codeObj_hi {p : Int} (h : 63 ≤ p % 190) : Obj.cells #[.int .u8 (129 + p / 190), .int .u8 (64 + p % 190 + 1)] 26 = codeObj p := by unfold codeObj; rw [trailF_hi h]
theorem codeObj_lo {p : Int} (h : p % 190 < 63) : Obj.cells #[.int .u8 (129 + p / 190), .int .u8 (64 + p % 190)] 26 = codeObj p := by unfold codeObj; rw [trailF_lo h]

set_option maxHeartbeats 400000 in
theorem code_any (p : Int) (hp : 0 ≤ p) (hp' : p < 23940) (w : World) :
    Calls Try.prog 13 #[.int .i64 p] w fun e w' => e = .returned (.agg #[.int .u8 (129 + p / 190), .int .u8 (trailF p)]) ∧ w' = w.alloc (codeObj p) := by
  by_cases h1 : 63 ≤ p % 190
  · go_enter Try.func13, Try.ntmps13
    go_wp2
    exact bodyPost_ret (v := .agg #[.int .u8 (129 + p / 190), .int .u8 (64 + p % 190 + 1)]) (by simp [results, Try.results13, go_sem]) rfl ⟨ret_agg (trailF_hi h1), by rw [codeObj_hi h1]⟩
  · go_enter Try.func13, Try.ntmps13
    go_wp2
    exact bodyPost_ret (v := .agg #[.int .u8 (129 + p / 190), .int .u8 (64 + p % 190)]) (by simp [results, Try.results13, go_sem]) rfl ⟨ret_agg (trailF_lo (by omega)), by rw [codeObj_lo (by omega)]⟩

set_option maxHeartbeats 400000 in
theorem zzcode_any (p : Int) (hp : 0 ≤ p) (hp' : p < 23940) (w : World) :
    Calls Try.prog 11 #[.int .i64 p] w fun e w' => e = .returned (.agg #[.int .u8 (129 + p / 190), .int .u8 (trailF p)]) ∧ w' = (w.alloc (codeObj p)).alloc (codeObj p) := by
  go_enter Try.func11, Try.ntmps11
  go_wp2_with (go_at_call 13; refine (code_any _ hp hp' _).mono ?_; rintro e w' ⟨rfl, rfl⟩)
  exact bodyPost_ret (v := .agg #[.int .u8 (129 + p / 190), .int .u8 (trailF p)]) (by simp [results, Try.results11, go_sem]) rfl ⟨rfl, rfl⟩

/-! ### The plain laws -/
theorem code_valid {p : Int} (hp : 0 ≤ p) (hp' : p < 23940) : 129 ≤ 129 + p / 190 ∧ 129 + p / 190 ≤ 254 ∧ 64 ≤ trailF p ∧ trailF p ≤ 254 ∧ trailF p ≠ 127 := by
  unfold trailF; split <;> omega
theorem place_code {p : Int} (_hp : 0 ≤ p) (_hp' : p < 23940) : placeF (129 + p / 190) (trailF p) = p := by
  unfold placeF trailF; split <;> split <;> omega
theorem place_range {l t : Int} (hl : 129 ≤ l) (hl' : l ≤ 254) (ht : 64 ≤ t) (ht' : t ≤ 254) (_h : t ≠ 127) : 0 ≤ placeF l t ∧ placeF l t < 23940 := by
  unfold placeF; split <;> omega
theorem lead_place {l t : Int} (_hl : 129 ≤ l) (_hl' : l ≤ 254) (ht : 64 ≤ t) (ht' : t ≤ 254) (_h : t ≠ 127) : 129 + placeF l t / 190 = l := by
  unfold placeF; split <;> omega
theorem trail_place {l t : Int} (_hl : 129 ≤ l) (_hl' : l ≤ 254) (ht : 64 ≤ t) (ht' : t ≤ 254) (_h : t ≠ 127) : trailF (placeF l t) = t := by
  unfold trailF placeF; split <;> split <;> omega

end Go.Proofs.Qxb6602817a
