/-
  reverse (function 38): a stretch of an owned row turned round in place.
-/
import Derived.Test.Qxb6603026aBase
import Derived.RegionTactic
import Derived.BigRegion
namespace Go.Proofs.Qxb6603026a
open Go.RowKit
set_option linter.unusedSimpArgs false
set_option linter.unusedVariables false

/-- l1 is l, the outer a pairs of its stretch [off, off + m) exchanged -/
def Rv (l : List Int) (off m a : Nat) (l1 : List Int) : Prop :=
  l1.length = l.length ∧ ∀ p, at0 l1 p = if off ≤ p ∧ p < off + m ∧ (p < off + a ∨ off + m ≤ p + a) then at0 l (off + off + m - 1 - p) else at0 l p

theorem Rv.start (l : List Int) (off m : Nat) : Rv l off m 0 l := ⟨rfl, fun p => by rw [if_neg (by omega)]⟩
theorem Rv.step {l : List Int} {off m a : Nat} {l1 : List Int} (h : Rv l off m a l1) (hl : off + m ≤ l.length) (ha : a + a + 1 < m) :
    Rv l off m (a + 1) ((l1.set (off + a) (at0 l1 (off + (m - 1 - a)))).set (off + (m - 1 - a)) (at0 l1 (off + a))) := by
  obtain ⟨h1, h2⟩ := h
  refine ⟨by simpa using h1, fun p => ?_⟩
  have e1 := h2 (off + a)
  have e2 := h2 (off + (m - 1 - a))
  rw [if_neg (by omega)] at e1 e2
  by_cases c1 : p = off + (m - 1 - a)
  · subst c1
    rw [at0_set_self (by simp; omega), e1, if_pos (by omega)]
    congr 1; omega
  · rw [at0_set_other c1]
    by_cases c2 : p = off + a
    · subst c2
      rw [at0_set_self (by omega), e2, if_pos (by omega)]
      congr 1; omega
    · rw [at0_set_other c2, h2 p]
      by_cases c3 : off ≤ p ∧ p < off + m ∧ (p < off + a ∨ off + m ≤ p + a)
      · rw [if_pos c3, if_pos (by omega)]
      · rw [if_neg c3, if_neg (by omega)]

def ReverseSaid (w : World) (g cap : Nat) (l : List Int) (off m : Nat) (e : Ending) (w' : World) : Prop :=
  e = .returned (.tuple #[]) ∧ ∃ l1 a, IRow w' g cap l1 ∧ Rv l off m a l1 ∧ m ≤ a + a + 1 ∧ a + a ≤ m ∧ Below g w w'

set_option maxHeartbeats 1000000 in
theorem reverse_any (w : World) (g cap : Nat) (l : List Int) (off m cap1 : Nat) (h : IRow w g cap l) (hl : off + m ≤ l.length) (hm : m ≤ 131072) (ho : off ≤ 131072) :
    Calls Try.prog 38 #[.slice (some ⟨g, off, none⟩) m cap1] w fun e w' => ReverseSaid w g cap l off m e w' := by
  have H0 : Hid _ := h
  clear h
  go_enter Try.func38, Try.ntmps38
  go_wp2
  go_loopw [2, 3] (fun av bv wr => ∃ (a : Nat) (z : Int) (l1 : List Int), a + a ≤ m ∧ av = .int .i64 (a : Int) ∧ z = (m : Int) - 1 - a ∧ bv = .int .i64 z ∧ IRow wr g cap l1 ∧ Rv l off m a l1 ∧ Below g w wr) (fun av _ _ => m - (intOf av).toNat)
  case atStart => exact ⟨0, _, l, by omega, rfl, by simp, rfl, H0.out, Rv.start _ _ _, Below.refl _ _⟩
  case round =>
    clear H0
    obtain ⟨a, z, l1, ha, rfl, hz, rfl, r, hrv, hbl⟩ := hrel
    have HR : Hid _ := r
    have HV : Hid _ := hrv
    have HB : Hid _ := hbl
    by_cases hlt : a + a + 1 < m
    · obtain ⟨b, hb⟩ : ∃ b, b = m - 1 - a := ⟨_, rfl⟩
      obtain rfl : z = (b : Int) := by omega
      have hl1 : l1.length = l.length := hrv.1
      have q0 := r.cell (j := off + a) (by omega)
      have q1 := r.cell (j := off + b) (by omega)
      have f0 := r.frozen (off + a)
      have f1 := r.frozen (off + b)
      have hab : a < b := by omega
      have hbm : b < m := by omega
      have a0 : (0 : Int) ≤ (a : Int) := by omega
      have a1 : (a : Int) < (m : Int) := by omega
      have b0 : (0 : Int) ≤ (b : Int) := by omega
      have b1 : (b : Int) < (m : Int) := by omega
      have hne : off + a ≠ off + b := by omega
      have hne' : off + b ≠ off + a := by omega
      have hS : Hid (Rv l off m (a + 1) ((l1.set (off + a) (at0 l1 (off + b))).set (off + b) (at0 l1 (off + a)))) := by rw [hb]; exact hrv.step hl (by omega)
      have hz2 : Hid ((b : Int) - 1 = (m : Int) - 1 - ((a + 1 : Nat) : Int)) := by show (b : Int) - 1 = (m : Int) - 1 - ((a + 1 : Nat) : Int); omega
      clear hz hb r hrv hbl hl1
      go_wp2_with fail
      go_region
      go_wp2
      go_roundw
      case rel => exact ⟨a + 1, _, _, by omega, by go_num, hz2.out, rfl, IRow.drew (IRow.set (IRow.set HR.out _ _) _ _), hS.out, ((HB.out.setCell (Nat.le_refl _) _).setCell (Nat.le_refl _) _).drew⟩
      case measure => simp [intOf]; omega
    · clear r hrv hbl
      have hzz : ¬ ((a : Int) < z) := by omega
      have HZ : Hid _ := hz
      clear hz
      go_wp2
      go_end0
      exact ⟨rfl, l1, a, HR.out, HV.out, by omega, ha, HB.out⟩

end Go.Proofs.Qxb6603026a
