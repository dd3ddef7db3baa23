/-
  The proof of 'Rows.FnTwoBytePlaceOrderMatchesCodeOrderSaid'. The frame (the row's step) is the seat's own shell, filled.
-/
import Derived.Test.Qxb6602817aRows
import Derived.WalkKit
import Derived.ProofKit
import Derived.OpenShut
import Derived.ShutString
import Derived.Test.Qxb6602817aFns
namespace Go.Proofs.Qxb6602817a.fnTwoBytePlaceOrderMatchesCodeOrder
open Go.ChangeShapes Go.WideShapes Go.ChangeAt Go.RowKit
open Go.ChangeMaps (open_string shut_string)
set_option linter.unusedVariables false

theorem own : ownKnob Try.prog.godebug = none := by kernel_rfl

/-- 'the first place is less' is 'the first code comes first' -/
theorem lt_eq {l1 t1 l2 t2 : Int} (h1 : vcB l1 t1 = true) (h2 : vcB l2 t2 = true) : (placeF l1 t1 < placeF l2 t2) ↔ (l1 < l2 ∨ (l1 = l2 ∧ t1 < t2)) := by
  obtain ⟨a1, a2, a3, a4, a5⟩ := vcB_true.1 h1
  obtain ⟨b1, b2, b3, b4, b5⟩ := vcB_true.1 h2
  unfold placeF; split <;> split <;> omega
theorem same_eq {l1 t1 l2 t2 : Int} (h1 : vcB l1 t1 = true) (h2 : vcB l2 t2 = true) : (placeF l1 t1 = placeF l2 t2) ↔ (l1 = l2 ∧ t1 = t2) := by
  obtain ⟨a1, a2, a3, a4, a5⟩ := vcB_true.1 h1
  obtain ⟨b1, b2, b3, b4, b5⟩ := vcB_true.1 h2
  unfold placeF; split <;> split <;> omega

/-! ### STEP 1: THE WALK: the Go text returns true. 'Grown w w'': the world has at most new blocks (Derived/RowKit3.lean). Part the cases AHEAD of 'go_enter' where a test parts the walk; take each callee by a contract of your own. -/
theorem walk (a0 : Int) (a1 : Int) (a2 : Int) (a3 : Int) (w0 : (Lit.int .u8 a0).wf = true) (w1 : (Lit.int .u8 a1).wf = true) (w2 : (Lit.int .u8 a2).wf = true) (w3 : (Lit.int .u8 a3).wf = true) (w : World) :
    Calls Try.prog 4 #[.int .u8 a0, .int .u8 a1, .int .u8 a2, .int .u8 a3] w fun e w' => e = .returned (.bool true) ∧ Grown w w' := by
  have b0 := bounds_u8 w0
  have b1 := bounds_u8 w1
  have b2 := bounds_u8 w2
  have b3 := bounds_u8 w3
  by_cases hv : vcB a0 a1 = true
  · by_cases hu : vcB a2 a3 = true
    · obtain ⟨v1, v2, v3, v4, v5⟩ := vcB_true.1 hv
      obtain ⟨u1, u2, u3, u4, u5⟩ := vcB_true.1 hu
      have HA : Hid _ := lt_eq hv hu
      have HB : Hid _ := same_eq hv hu
      by_cases c1 : a0 < a2
      · have d1 : placeF a0 a1 < placeF a2 a3 := HA.out.2 (.inl c1)
        have e1 : (a0 == a2) = false := by simp; omega
        have e2 : (placeF a0 a1 == placeF a2 a3) = false := by simp; omega
        go_enter Try.func4, Try.ntmps4
        go_wp2_with (first | (go_at_call 8; refine (valid_any _ _ (by omega) (by omega) (by omega) (by omega) _).mono ?_; rintro e w' ⟨rfl, rfl⟩) | (go_at_call 9; refine (zzplace_any _ _ (by omega) (by omega) (by omega) (by omega) _).mono ?_; rintro e w' ⟨rfl, rfl⟩))
        go_ret
        exact ⟨rfl, Grown.refl _⟩
      · by_cases c2 : a2 < a0
        · have d1 : ¬ placeF a0 a1 < placeF a2 a3 := fun h => by have := HA.out.1 h; omega
          have e1 : (a0 == a2) = false := by simp; omega
          have e2 : (placeF a0 a1 == placeF a2 a3) = false := by
            rw [beq_eq_false_iff_ne]; exact fun h => by have := HB.out.1 h; omega
          go_enter Try.func4, Try.ntmps4
          go_wp2_with (first | (go_at_call 8; refine (valid_any _ _ (by omega) (by omega) (by omega) (by omega) _).mono ?_; rintro e w' ⟨rfl, rfl⟩) | (go_at_call 9; refine (zzplace_any _ _ (by omega) (by omega) (by omega) (by omega) _).mono ?_; rintro e w' ⟨rfl, rfl⟩))
          go_ret
          exact ⟨rfl, Grown.refl _⟩
        · have e : a0 = a2 := by omega
          subst e
          have e1 : (a0 == a0) = true := by simp
          by_cases c3 : a1 < a3
          · have d1 : placeF a0 a1 < placeF a0 a3 := HA.out.2 (.inr ⟨rfl, c3⟩)
            have e2 : (placeF a0 a1 == placeF a0 a3) = false := by simp; omega
            have e3 : (a1 == a3) = false := by simp; omega
            go_enter Try.func4, Try.ntmps4
            go_wp2_with (first | (go_at_call 8; refine (valid_any _ _ (by omega) (by omega) (by omega) (by omega) _).mono ?_; rintro e w' ⟨rfl, rfl⟩) | (go_at_call 9; refine (zzplace_any _ _ (by omega) (by omega) (by omega) (by omega) _).mono ?_; rintro e w' ⟨rfl, rfl⟩))
            go_ret
            exact ⟨rfl, Grown.refl _⟩
          · have d1 : ¬ placeF a0 a1 < placeF a0 a3 := fun h => by have := HA.out.1 h; omega
            by_cases c4 : a1 = a3
            · subst c4
              have e2 : (placeF a0 a1 == placeF a0 a1) = true := by simp
              have e3 : (a1 == a1) = true := by simp
              go_enter Try.func4, Try.ntmps4
              go_wp2_with (first | (go_at_call 8; refine (valid_any _ _ (by omega) (by omega) (by omega) (by omega) _).mono ?_; rintro e w' ⟨rfl, rfl⟩) | (go_at_call 9; refine (zzplace_any _ _ (by omega) (by omega) (by omega) (by omega) _).mono ?_; rintro e w' ⟨rfl, rfl⟩))
              go_ret
              exact ⟨rfl, Grown.refl _⟩
            · have e2 : (placeF a0 a1 == placeF a0 a3) = false := by
                rw [beq_eq_false_iff_ne]; exact fun h => c4 (HB.out.1 h).2
              have e3 : (a1 == a3) = false := by simpa using c4
              clear c4
              go_enter Try.func4, Try.ntmps4
              go_wp2_with (first | (go_at_call 8; refine (valid_any _ _ (by omega) (by omega) (by omega) (by omega) _).mono ?_; rintro e w' ⟨rfl, rfl⟩) | (go_at_call 9; refine (zzplace_any _ _ (by omega) (by omega) (by omega) (by omega) _).mono ?_; rintro e w' ⟨rfl, rfl⟩))
              go_ret
              exact ⟨rfl, Grown.refl _⟩
    · have hu' : vcB a2 a3 = false := by simpa using hu
      clear hu
      go_enter Try.func4, Try.ntmps4
      go_wp2_with (first | (go_at_call 8; refine (valid_any _ _ (by omega) (by omega) (by omega) (by omega) _).mono ?_; rintro e w' ⟨rfl, rfl⟩) | (go_at_call 9; refine (zzplace_any _ _ (by omega) (by omega) (by omega) (by omega) _).mono ?_; rintro e w' ⟨rfl, rfl⟩))
      go_ret
      exact ⟨rfl, Grown.refl _⟩
  · have hv' : vcB a0 a1 = false := by simpa using hv
    clear hv
    go_enter Try.func4, Try.ntmps4
    go_wp2_with (first | (go_at_call 8; refine (valid_any _ _ (by omega) (by omega) (by omega) (by omega) _).mono ?_; rintro e w' ⟨rfl, rfl⟩) | (go_at_call 9; refine (zzplace_any _ _ (by omega) (by omega) (by omega) (by omega) _).mono ?_; rintro e w' ⟨rfl, rfl⟩))
    go_ret
    exact ⟨rfl, Grown.refl _⟩

/-! ### THE ROW's STEP: WRITTEN OUT: LEAVE IT -/
set_option maxRecDepth 100000 in
theorem lifted (os : Os) (started : os.Started) (H : Type) (enc : TypeId × Value → H) :
    ReturnsInHanded {} Try.checked os 4 .any (Rows.fnTwoBytePlaceOrderMatchesCodeOrderSpec.pre6 enc Try.prog Try.f4 Rows.fnTwoBytePlaceOrderMatchesCodeOrderRow.domain false) (Rows.fnTwoBytePlaceOrderMatchesCodeOrderSpec.post enc Try.prog Try.f4 false true false false) := by
  refine returnsInHanded_of_change (C := Try.checked) own started (by kernel_rfl) Try.func4
    (ChangeSpec.witness6 (enc := enc) (C := Try.checked) false ⟨#[], #[.int .u8 0, .int .u8 0, .int .u8 0, .int .u8 0], []⟩ 8 (by kernel_rfl) (by kernel_rfl) (by kernel_rfl) (by kernel_rfl)) ?_
  intro W base args ds gs before hval0 hW hcnd _
  have hval : ∀ (j : Nat) t v, Try.f4.params[j]? = some t → args[j]? = some v → Value.okWide Try.prog W .any base t v := hval0
  have hW' := hW
  obtain ⟨p, q, hA0, hV, rfl, hfz, hnd⟩ := hW
  have hA : DataW.TrodAll enc Try.prog W 0 (fun _ => true) true Try.f4.params.toList args.toList ds p := hA0
  rw [Try.params4] at hA hval
  obtain ⟨v0, vs0, d0, ds0, p0, q0, hargs, rfl, rfl, h0, r0⟩ := trodAll_cons hA
  obtain ⟨v1, vs1, d1, ds1, p1, q1, rfl, rfl, rfl, h1, r1⟩ := trodAll_cons r0
  obtain ⟨v2, vs2, d2, ds2, p2, q2, rfl, rfl, rfl, h2, r2⟩ := trodAll_cons r1
  obtain ⟨v3, vs3, d3, ds3, p3, q3, rfl, rfl, rfl, h3, r3⟩ := trodAll_cons r2
  obtain ⟨rfl, rfl, rfl⟩ := trodAll_nil r3
  obtain rfl : args = #[v0, v1, v2, v3] := by cases args; simp_all
  obtain ⟨rfl, rfl⟩ := trodVars_none hV
  obtain ⟨a0, rfl, rfl, rfl, w0⟩ := open_int Try.underlying5 (hval 0 5 v0 rfl rfl) h0
  obtain ⟨a1, rfl, rfl, rfl, w1⟩ := open_int Try.underlying5 (hval 1 5 v1 rfl rfl) h1
  obtain ⟨a2, rfl, rfl, rfl, w2⟩ := open_int Try.underlying5 (hval 2 5 v2 rfl rfl) h2
  obtain ⟨a3, rfl, rfl, rfl, w3⟩ := open_int Try.underlying5 (hval 3 5 v3 rfl rfl) h3
  clear hA0 hval0
  simp only [List.append_nil] at hW'
  refine (walk a0 a1 a2 a3 w0 w1 w2 w3 W).mono fun e W' ⟨he, hg⟩ => ?_
  subst he
  exact ⟨_, rfl, post_of_same (pa := []) (pv := []) hW' (fun _ _ _ => (trodAll_cons_mk (shut_bool Try.underlying4 _) trodAll_mk0)) (fun sp _ => (trodAll_cons_mk (shut_int Try.underlying5 w0) (trodAll_cons_mk (shut_int Try.underlying5 w1) (trodAll_cons_mk (shut_int Try.underlying5 w2) (trodAll_cons_mk (shut_int Try.underlying5 w3) trodAll_mk0))))) (fun _ _ => rfl) rfl
    (hg.frame _) hg.2.1 (ok_one (by kernel_rfl) rfl (okWide_bool_mk Try.underlying4 _))⟩

theorem over : Rows.fnTwoBytePlaceOrderMatchesCodeOrderRow.holds Try.pinned (OpenSpec.ofChange Rows.fnTwoBytePlaceOrderMatchesCodeOrderSpec) :=
  OpenClaim.holds_of_wide 4 Try.f4 rfl rfl rfl rfl rfl rfl rfl ⟨rfl, rfl, rfl, rfl, rfl⟩ rfl rfl rfl rfl rfl (by kernel_rfl) Try.func4 (by kernel_rfl)
    (of_decide_eq_true (by kernel_rfl)) (by unfold Func.isWrapper; first | (rw [if_pos (by decide +kernel)]; kernel_rfl) | (rw [if_neg (by decide +kernel)]; exact ⟨rfl, rfl⟩))
    (fun os started H enc _ => lifted os started H enc)

/-- ████ THE STATEMENT ████ -/
theorem proved : Rows.FnTwoBytePlaceOrderMatchesCodeOrderSaid :=
  over
end Go.Proofs.Qxb6602817a.fnTwoBytePlaceOrderMatchesCodeOrder
