/-
  sameInts (function 16): two slices that read alike.
-/
import Derived.Test.Qxb6603026aBase
import Derived.Deep.QuietTactic
import Derived.BigQuiet
namespace Go.Proofs.Qxb6603026a
open Go.RowKit
set_option linter.unusedSimpArgs false
set_option linter.unusedVariables false

def SameSaid (w : World) (e : Ending) (w' : World) : Prop := e = .returned (.bool true) ∧ ∃ q : Nat, w' = w.drewN q

theorem same_any (S S' : Nat → Prop) (w : World) (v v' : Value) (l : List Int) (h : IntsIn S w v l) (h' : IntsIn S' w v' l) (hl : l.length ≤ 131072) :
    Calls Try.prog 16 #[v, v'] w fun e w' => SameSaid w e w' := by
  obtain ⟨a, b, off, cap, rfl, hm, ha, hc⟩ := h
  obtain ⟨a', b', off', cap', rfl, hm', ha', hc'⟩ := h'
  have t0 : ((l.length : Int) != (l.length : Int)) = false := by simp
  go_enter Try.func16, Try.ntmps16
  go_wp2
  go_loopw [5] (fun kv wr => ∃ k q : Nat, k ≤ l.length ∧ kv = .int .i64 (k : Int) ∧ wr = w.drewN q) (fun kv _ => l.length - (intOf kv).toNat)
  case atStart => exact ⟨0, 0, Nat.zero_le _, rfl, rfl⟩
  case round =>
    obtain ⟨k, q, hk, rfl, rfl⟩ := hrel
    by_cases hlk : k < l.length
    · obtain ⟨hp, _⟩ := ha (by omega)
      obtain ⟨hp', _⟩ := ha' (by omega)
      cases hp
      cases hp'
      have e1 := hc k hlk
      have e2 := hc' k hlk
      have t1 : (at0 l k != at0 l k) = false := by simp
      clear hc hc' ha ha' hm hm'
      go_wp2
      go_quiet (fail)
      generalize nq = n1
      go_wp2
      go_roundw
      case rel => exact ⟨k + 1, _, by omega, by go_num, rfl⟩
      case measure => simp [intOf]; omega
    · have hk' : k = l.length := by omega
      subst hk'
      go_wp2
      go_ret
      exact ⟨rfl, q, rfl⟩

end Go.Proofs.Qxb6603026a
