/-
  The proof of 'Rows.FnTwoByteCodeIsPlaceThCodeSaid'. The frame (the row's step) is the seat's own shell, filled.
-/
import Derived.Test.Qxb6602817aRows
import Derived.WalkKit
import Derived.ProofKit
import Derived.OpenShut
import Derived.ShutString
import Derived.Test.Qxb6602817aFns
namespace Go.Proofs.Qxb6602817a.fnTwoByteCodeIsPlaceThCode
open Go.ChangeShapes Go.WideShapes Go.ChangeAt Go.RowKit
open Go.ChangeMaps (open_string shut_string)
set_option linter.unusedVariables false

theorem own : ownKnob Try.prog.godebug = none := by kernel_rfl

/-- how many trail bytes come before 't' -/
def cnt (t : Int) : Int := if 127 < t then t - 65 else t - 64
theorem cnt_succ_ok {t : Int} (h : t ≠ 127) : cnt (t + 1) = cnt t + 1 := by unfold cnt; split <;> split <;> omega
theorem cnt_succ_bad : cnt (127 + 1) = cnt 127 := by decide
theorem cnt_bd {t : Int} (h : 64 ≤ t) : 0 ≤ cnt t ∧ cnt t ≤ t - 64 := by unfold cnt; split <;> omega
/-- where the rank is the place, the code is the place's -/
theorem hit {l t p : Int} (h1 : 129 ≤ l) (h2 : l ≤ 254) (h3 : 64 ≤ t) (h4 : t ≤ 254) (h5 : t ≠ 127) (h : (l - 129) * 190 + cnt t = p) : 129 + p / 190 = l ∧ trailF p = t := by
  subst h; unfold trailF cnt; constructor <;> split <;> (try split) <;> omega

/-! ### STEP 1: THE WALK: the Go text returns true. 'Grown w w'': the world has at most new blocks (Derived/RowKit3.lean). Part the cases AHEAD of 'go_enter' where a test parts the walk; take each callee by a contract of your own. -/
theorem walk (a0 : Int) (w0 : (Lit.int .i64 a0).wf = true) (w : World) :
    Calls Try.prog 5 #[.int .i64 a0] w fun e w' => e = .returned (.bool true) ∧ Grown w w' := by
  by_cases h0 : a0 < 0
  · go_enter Try.func5, Try.ntmps5
    go_wp2
    go_ret
    exact ⟨rfl, Grown.refl _⟩
  by_cases h1 : a0 < 23940
  · have hp : 0 ≤ a0 := by omega
    obtain ⟨v1, v2, v3, v4, v5⟩ := code_valid hp h1
    go_enter Try.func5, Try.ntmps5
    go_wp2_with (first | (go_at_call 11; refine (zzcode_any _ hp h1 _).mono ?_; rintro e w' ⟨rfl, rfl⟩))
    go_loop [4, 5] (fun r l => ∃ m : Int, 129 ≤ m ∧ m ≤ 255 ∧ (m - 129) * 190 ≤ a0 ∧ l = .int .i64 m ∧ r = .int .i64 ((m - 129) * 190)) (fun _ l => (255 - intOf l).toNat)
    case atStart => exact ⟨129, by omega, by omega, by omega, rfl, rfl⟩
    case round =>
      obtain ⟨m, hm1, hm2, hm3, rfl, rfl⟩ := hrel
      by_cases hlt : m ≤ 254
      · go_wp2
        go_loop [4, 6] (fun r t => ∃ k : Int, 64 ≤ k ∧ k ≤ 255 ∧ (m - 129) * 190 + cnt k ≤ a0 ∧ t = .int .i64 k ∧ r = .int .i64 ((m - 129) * 190 + cnt k)) (fun _ t => (255 - intOf t).toNat)
        case atStart => exact ⟨64, by omega, by omega, by simp [cnt]; omega, rfl, by simp [cnt]⟩
        case round =>
          obtain ⟨k, hk1, hk2, hk3, rfl, rfl⟩ := hrel
          have cb := cnt_bd hk1
          by_cases hk : k ≤ 254
          · by_cases h127 : k = 127
            · subst h127
              have hvt : vtB 127 = false := by decide
              have HC : Hid (cnt (127 + 1) = cnt 127) := cnt_succ_bad
              go_wp2_with (go_at_call 10; refine (trail_any _ _).mono ?_; rintro e w' ⟨rfl, rfl⟩)
              go_round
              case rel => exact ⟨127 + 1, by omega, by omega, by rw [HC.out]; exact hk3, rfl, by rw [HC.out]⟩
              case measure => simp [intOf]
            · have hvt : vtB k = true := vtB_true.2 ⟨hk1, hk, h127⟩
              have HC : Hid (cnt (k + 1) = cnt k + 1) := cnt_succ_ok h127
              have HN : Hid (k ≠ 127) := h127
              clear h127
              by_cases hr : (m - 129) * 190 + cnt k = a0
              · have HH : Hid (129 + a0 / 190 = m ∧ trailF a0 = k) := hit hm1 hlt hk1 hk HN.out hr
                have HR : Hid ((m - 129) * 190 + cnt k = a0) := hr
                have q : ((m - 129) * 190 + cnt k == a0) = true := by simp [hr]
                have q1 : (129 + a0 / 190 == m) = true := by simp [HH.out.1]
                have q2 : (trailF a0 == k) = true := by simp [HH.out.2]
                clear hr
                go_wp2_with (go_at_call 10; refine (trail_any _ _).mono ?_; rintro e w' ⟨rfl, rfl⟩)
                go_ret
                exact ⟨rfl, by repeat (first | exact Grown.refl _ | apply Grown.drew | apply Grown.alloc)⟩
              · have q : ((m - 129) * 190 + cnt k == a0) = false := by simpa using hr
                have HR : Hid ((m - 129) * 190 + cnt k ≠ a0) := hr
                clear hr
                go_wp2_with (go_at_call 10; refine (trail_any _ _).mono ?_; rintro e w' ⟨rfl, rfl⟩)
                go_round
                case rel => exact ⟨k + 1, by omega, by omega, by rw [HC.out]; have := HR.out; omega, rfl, by rw [HC.out]; go_num⟩
                case measure => simp [intOf]; omega
          · have hk' : k = 255 := by omega
            subst hk'
            have h190 : cnt 255 = 190 := by decide
            go_wp2
            go_round
            case rel => exact ⟨m + 1, by omega, by omega, by omega, rfl, by go_num⟩
            case measure => simp [intOf]; omega
      · omega
  · go_enter Try.func5, Try.ntmps5
    go_wp2
    go_ret
    exact ⟨rfl, Grown.refl _⟩

/-! ### THE ROW's STEP: WRITTEN OUT: LEAVE IT -/
set_option maxRecDepth 100000 in
theorem lifted (os : Os) (started : os.Started) (H : Type) (enc : TypeId × Value → H) :
    ReturnsInHanded {} Try.checked os 5 .any (Rows.fnTwoByteCodeIsPlaceThCodeSpec.pre6 enc Try.prog Try.f5 Rows.fnTwoByteCodeIsPlaceThCodeRow.domain false) (Rows.fnTwoByteCodeIsPlaceThCodeSpec.post enc Try.prog Try.f5 false true false false) := by
  refine returnsInHanded_of_change (C := Try.checked) own started (by kernel_rfl) Try.func5
    (ChangeSpec.witness6 (enc := enc) (C := Try.checked) false ⟨#[], #[.int .i64 0], []⟩ 8 (by kernel_rfl) (by kernel_rfl) (by kernel_rfl) (by kernel_rfl)) ?_
  intro W base args ds gs before hval0 hW hcnd _
  have hval : ∀ (j : Nat) t v, Try.f5.params[j]? = some t → args[j]? = some v → Value.okWide Try.prog W .any base t v := hval0
  have hW' := hW
  obtain ⟨p, q, hA0, hV, rfl, hfz, hnd⟩ := hW
  have hA : DataW.TrodAll enc Try.prog W 0 (fun _ => true) true Try.f5.params.toList args.toList ds p := hA0
  rw [Try.params5] at hA hval
  obtain ⟨v0, vs0, d0, ds0, p0, q0, hargs, rfl, rfl, h0, r0⟩ := trodAll_cons hA
  obtain ⟨rfl, rfl, rfl⟩ := trodAll_nil r0
  obtain rfl : args = #[v0] := by cases args; simp_all
  obtain ⟨rfl, rfl⟩ := trodVars_none hV
  obtain ⟨a0, rfl, rfl, rfl, w0⟩ := open_int Try.underlying3 (hval 0 3 v0 rfl rfl) h0
  clear hA0 hval0
  simp only [List.append_nil] at hW'
  refine (walk a0 w0 W).mono fun e W' ⟨he, hg⟩ => ?_
  subst he
  exact ⟨_, rfl, post_of_same (pa := []) (pv := []) hW' (fun _ _ _ => (trodAll_cons_mk (shut_bool Try.underlying4 _) trodAll_mk0)) (fun sp _ => (trodAll_cons_mk (shut_int Try.underlying3 w0) trodAll_mk0)) (fun _ _ => rfl) rfl
    (hg.frame _) hg.2.1 (ok_one (by kernel_rfl) rfl (okWide_bool_mk Try.underlying4 _))⟩

theorem over : Rows.fnTwoByteCodeIsPlaceThCodeRow.holds Try.pinned (OpenSpec.ofChange Rows.fnTwoByteCodeIsPlaceThCodeSpec) :=
  OpenClaim.holds_of_wide 5 Try.f5 rfl rfl rfl rfl rfl rfl rfl ⟨rfl, rfl, rfl, rfl, rfl⟩ rfl rfl rfl rfl rfl (by kernel_rfl) Try.func5 (by kernel_rfl)
    (of_decide_eq_true (by kernel_rfl)) (by unfold Func.isWrapper; first | (rw [if_pos (by decide +kernel)]; kernel_rfl) | (rw [if_neg (by decide +kernel)]; exact ⟨rfl, rfl⟩))
    (fun os started H enc _ => lifted os started H enc)

/-- ████ THE STATEMENT ████ -/
theorem proved : Rows.FnTwoByteCodeIsPlaceThCodeSaid :=
  over
end Go.Proofs.Qxb6602817a.fnTwoByteCodeIsPlaceThCode
