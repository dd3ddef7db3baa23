/-
  hasEdge (function 24).
-/
import Derived.Test.Qxb6603026aBase
namespace Go.Proofs.Qxb6603026a
open Go.RowKit
set_option linter.unusedSimpArgs false
set_option linter.unusedVariables false

/-- is x among the numbers? -/
def hasX (l : List Int) (x : Int) : Bool := l.contains x

theorem hasEdge_any (S : Nat → Prop) (w : World) (v : Value) (l : List Int) (x : Int) (h : IntsIn S w v l) (hl : l.length ≤ 131072) :
    Calls Try.prog 24 #[v, .int .i64 x] w fun e w' => e = .returned (.bool (hasX l x)) ∧ w' = w := by
  obtain ⟨a, b, off, cap, rfl, hm, ha, hc⟩ := h
  go_enter Try.func24, Try.ntmps24
  go_wp2
  go_loopw [5] (fun kv wr => ∃ k : Nat, k ≤ l.length ∧ kv = .int .i64 (k : Int) ∧ wr = w ∧ ∀ j, j < k → at0 l j ≠ x) (fun kv _ => l.length - (intOf kv).toNat)
  case atStart => exact ⟨0, Nat.zero_le _, rfl, rfl, fun j hj => by omega⟩
  case round =>
    obtain ⟨k, hk, rfl, rfl, hno⟩ := hrel
    have HNO : Hid _ := hno
    clear hno
    by_cases hlk : k < l.length
    · obtain ⟨hp, _⟩ := ha (by omega)
      cases hp
      have e1 := hc k hlk
      by_cases hx : at0 l k = x
      · have t1 : (at0 l k == x) = true := by simp [hx]
        have hin : hasX l x = true := by
          unfold hasX
          rw [List.contains_iff_mem, ← hx, show at0 l k = l[k] by simp [at0, hlk]]
          exact List.getElem_mem hlk
        have HIN : Hid _ := hin
        clear hx hin
        go_wp2
        go_ret
        exact ⟨by rw [HIN.out]; rfl, rfl⟩
      · have t1 : (at0 l k == x) = false := by simpa using hx
        have HX : Hid _ := hx
        clear hx
        go_wp2
        go_roundw
        case rel =>
          refine ⟨k + 1, hlk, by go_num, trivial, fun j hj => ?_⟩
          by_cases e : j = k
          · rw [e]; exact HX.out
          · exact HNO.out j (by omega)
        case measure => simp [intOf]; omega
    · have hk' : k = l.length := by omega
      subst hk'
      have hin : hasX l x = false := by
        unfold hasX
        rw [Bool.eq_false_iff]
        intro hh
        rw [List.contains_iff_mem] at hh
        obtain ⟨j, hj, e⟩ := List.mem_iff_getElem.1 hh
        exact HNO.out j hj (by simp [at0, hj, e])
      have HIN : Hid _ := hin
      clear hin
      go_wp2
      go_ret
      exact ⟨by rw [HIN.out]; rfl, rfl⟩

end Go.Proofs.Qxb6603026a
