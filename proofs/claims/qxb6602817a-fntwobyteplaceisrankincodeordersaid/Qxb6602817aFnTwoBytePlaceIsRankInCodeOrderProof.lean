/-
  The proof of 'Rows.FnTwoBytePlaceIsRankInCodeOrderSaid'. The frame (the row's step) is the seat's own shell, filled.
-/
import Derived.Test.Qxb6602817aRows
import Derived.WalkKit
import Derived.ProofKit
import Derived.OpenShut
import Derived.ShutString
import Derived.Test.Qxb6602817aFns
namespace Go.Proofs.Qxb6602817a.fnTwoBytePlaceIsRankInCodeOrder
open Go.ChangeShapes Go.WideShapes Go.ChangeAt Go.RowKit
open Go.ChangeMaps (open_string shut_string)
set_option linter.unusedVariables false

theorem own : ownKnob Try.prog.godebug = none := by kernel_rfl

/-- how many trail bytes come before 't' -/
def cnt (t : Int) : Int := if 127 < t then t - 65 else t - 64
theorem cnt_succ_ok {t : Int} (h : t ≠ 127) : cnt (t + 1) = cnt t + 1 := by unfold cnt; split <;> split <;> omega
theorem cnt_succ_bad : cnt (127 + 1) = cnt 127 := by decide
theorem cnt_bd {t : Int} (h : 64 ≤ t) : 0 ≤ cnt t ∧ cnt t ≤ t - 64 := by unfold cnt; split <;> omega
/-- the rank at the code itself is its place -/
theorem hit (l t : Int) : placeF l t = (l - 129) * 190 + cnt t := by unfold placeF cnt; rfl

/-! ### STEP 1: THE WALK: the Go text returns true. 'Grown w w'': the world has at most new blocks (Derived/RowKit3.lean). Part the cases AHEAD of 'go_enter' where a test parts the walk; take each callee by a contract of your own. -/
theorem walk (a0 : Int) (a1 : Int) (w0 : (Lit.int .u8 a0).wf = true) (w1 : (Lit.int .u8 a1).wf = true) (w : World) :
    Calls Try.prog 3 #[.int .u8 a0, .int .u8 a1] w fun e w' => e = .returned (.bool true) ∧ Grown w w' := by
  have b0 := bounds_u8 w0
  have b1 := bounds_u8 w1
  by_cases hv : vcB a0 a1 = true
  · obtain ⟨v1, v2, v3, v4, v5⟩ := vcB_true.1 hv
    have HV : Hid (a1 ≠ 127) := v5
    clear v5
    go_enter Try.func3, Try.ntmps3
    go_wp2_with (first | (go_at_call 8; refine (valid_any _ _ (by omega) (by omega) (by omega) (by omega) _).mono ?_; rintro e w' ⟨rfl, rfl⟩) | (go_at_call 9; refine (zzplace_any _ _ v1 v2 v3 v4 _).mono ?_; rintro e w' ⟨rfl, rfl⟩))
    go_loop [6, 7] (fun r l => ∃ m : Int, 129 ≤ m ∧ m ≤ a0 ∧ l = .int .i64 m ∧ r = .int .i64 ((m - 129) * 190)) (fun _ l => (255 - intOf l).toNat)
    case atStart => exact ⟨129, by omega, by omega, rfl, rfl⟩
    case round =>
      obtain ⟨m, hm1, hm2, rfl, rfl⟩ := hrel
      go_wp2
      go_loop [6, 8] (fun r t => ∃ k : Int, 64 ≤ k ∧ k ≤ 255 ∧ (m = a0 → k ≤ a1) ∧ t = .int .i64 k ∧ r = .int .i64 ((m - 129) * 190 + cnt k)) (fun _ t => (255 - intOf t).toNat)
      case atStart => exact ⟨64, by omega, by omega, fun _ => by omega, rfl, by simp [cnt]⟩
      case round =>
        obtain ⟨k, hk1, hk2, hk3, rfl, rfl⟩ := hrel
        have HK : Hid (m = a0 → k ≤ a1) := hk3
        clear hk3
        have cb := cnt_bd hk1
        by_cases hk : k ≤ 254
        · by_cases h127 : k = 127
          · subst h127
            have hvt : vtB 127 = false := by decide
            have HC : Hid (cnt (127 + 1) = cnt 127) := cnt_succ_bad
            go_wp2_with (go_at_call 10; refine (trail_any _ _).mono ?_; rintro e w' ⟨rfl, rfl⟩)
            go_round
            case rel => exact ⟨127 + 1, by omega, by omega, fun h => by have := HK.out h; have := HV.out; omega, rfl, by rw [HC.out]⟩
            case measure => simp [intOf]
          · have hvt : vtB k = true := vtB_true.2 ⟨hk1, hk, h127⟩
            have HC : Hid (cnt (k + 1) = cnt k + 1) := cnt_succ_ok h127
            clear h127
            by_cases hl : m = a0
            · subst hl
              have q0 : (m == m) = true := by simp
              by_cases hr : k = a1
              · subst hr
                have q1 : (k == k) = true := by simp
                have q2 : (placeF m k == (m - 129) * 190 + cnt k) = true := by simp [hit]
                go_wp2_with (go_at_call 10; refine (trail_any _ _).mono ?_; rintro e w' ⟨rfl, rfl⟩)
                go_ret
                exact ⟨rfl, Grown.refl _⟩
              · have q1 : (k == a1) = false := by simpa using hr
                have HR : Hid (k ≠ a1) := hr
                clear hr
                go_wp2_with (go_at_call 10; refine (trail_any _ _).mono ?_; rintro e w' ⟨rfl, rfl⟩)
                go_round
                case rel => exact ⟨k + 1, by omega, by omega, fun h => by have := HK.out h; have := HR.out; omega, rfl, by rw [HC.out]; go_num⟩
                case measure => simp [intOf]; omega
            · have q0 : (m == a0) = false := by simpa using hl
              have HL : Hid (m ≠ a0) := hl
              clear hl
              go_wp2_with (go_at_call 10; refine (trail_any _ _).mono ?_; rintro e w' ⟨rfl, rfl⟩)
              go_round
              case rel => exact ⟨k + 1, by omega, by omega, fun h => (HL.out h).elim, rfl, by rw [HC.out]; go_num⟩
              case measure => simp [intOf]; omega
        · have hk' : k = 255 := by omega
          subst hk'
          have h190 : cnt 255 = 190 := by decide
          have hne : m < a0 := by
            have := HK.out
            omega
          go_wp2
          go_round
          case rel => exact ⟨m + 1, by omega, by omega, rfl, by go_num⟩
          case measure => simp [intOf]; omega
  · have hv' : vcB a0 a1 = false := by simpa using hv
    clear hv
    go_enter Try.func3, Try.ntmps3
    go_wp2_with (first | (go_at_call 8; refine (valid_any _ _ (by omega) (by omega) (by omega) (by omega) _).mono ?_; rintro e w' ⟨rfl, rfl⟩))
    go_ret
    exact ⟨rfl, Grown.refl _⟩

/-! ### THE ROW's STEP: WRITTEN OUT: LEAVE IT -/
set_option maxRecDepth 100000 in
theorem lifted (os : Os) (started : os.Started) (H : Type) (enc : TypeId × Value → H) :
    ReturnsInHanded {} Try.checked os 3 .any (Rows.fnTwoBytePlaceIsRankInCodeOrderSpec.pre6 enc Try.prog Try.f3 Rows.fnTwoBytePlaceIsRankInCodeOrderRow.domain false) (Rows.fnTwoBytePlaceIsRankInCodeOrderSpec.post enc Try.prog Try.f3 false true false false) := by
  refine returnsInHanded_of_change (C := Try.checked) own started (by kernel_rfl) Try.func3
    (ChangeSpec.witness6 (enc := enc) (C := Try.checked) false ⟨#[], #[.int .u8 0, .int .u8 0], []⟩ 8 (by kernel_rfl) (by kernel_rfl) (by kernel_rfl) (by kernel_rfl)) ?_
  intro W base args ds gs before hval0 hW hcnd _
  have hval : ∀ (j : Nat) t v, Try.f3.params[j]? = some t → args[j]? = some v → Value.okWide Try.prog W .any base t v := hval0
  have hW' := hW
  obtain ⟨p, q, hA0, hV, rfl, hfz, hnd⟩ := hW
  have hA : DataW.TrodAll enc Try.prog W 0 (fun _ => true) true Try.f3.params.toList args.toList ds p := hA0
  rw [Try.params3] at hA hval
  obtain ⟨v0, vs0, d0, ds0, p0, q0, hargs, rfl, rfl, h0, r0⟩ := trodAll_cons hA
  obtain ⟨v1, vs1, d1, ds1, p1, q1, rfl, rfl, rfl, h1, r1⟩ := trodAll_cons r0
  obtain ⟨rfl, rfl, rfl⟩ := trodAll_nil r1
  obtain rfl : args = #[v0, v1] := by cases args; simp_all
  obtain ⟨rfl, rfl⟩ := trodVars_none hV
  obtain ⟨a0, rfl, rfl, rfl, w0⟩ := open_int Try.underlying5 (hval 0 5 v0 rfl rfl) h0
  obtain ⟨a1, rfl, rfl, rfl, w1⟩ := open_int Try.underlying5 (hval 1 5 v1 rfl rfl) h1
  clear hA0 hval0
  simp only [List.append_nil] at hW'
  refine (walk a0 a1 w0 w1 W).mono fun e W' ⟨he, hg⟩ => ?_
  subst he
  exact ⟨_, rfl, post_of_same (pa := []) (pv := []) hW' (fun _ _ _ => (trodAll_cons_mk (shut_bool Try.underlying4 _) trodAll_mk0)) (fun sp _ => (trodAll_cons_mk (shut_int Try.underlying5 w0) (trodAll_cons_mk (shut_int Try.underlying5 w1) trodAll_mk0))) (fun _ _ => rfl) rfl
    (hg.frame _) hg.2.1 (ok_one (by kernel_rfl) rfl (okWide_bool_mk Try.underlying4 _))⟩

theorem over : Rows.fnTwoBytePlaceIsRankInCodeOrderRow.holds Try.pinned (OpenSpec.ofChange Rows.fnTwoBytePlaceIsRankInCodeOrderSpec) :=
  OpenClaim.holds_of_wide 3 Try.f3 rfl rfl rfl rfl rfl rfl rfl ⟨rfl, rfl, rfl, rfl, rfl⟩ rfl rfl rfl rfl rfl (by kernel_rfl) Try.func3 (by kernel_rfl)
    (of_decide_eq_true (by kernel_rfl)) (by unfold Func.isWrapper; first | (rw [if_pos (by decide +kernel)]; kernel_rfl) | (rw [if_neg (by decide +kernel)]; exact ⟨rfl, rfl⟩))
    (fun os started H enc _ => lifted os started H enc)

/-- ████ THE STATEMENT ████ -/
theorem proved : Rows.FnTwoBytePlaceIsRankInCodeOrderSaid :=
  over
end Go.Proofs.Qxb6602817a.fnTwoBytePlaceIsRankInCodeOrder
