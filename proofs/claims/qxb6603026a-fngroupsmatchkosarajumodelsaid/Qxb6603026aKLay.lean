/-
  The layout by components: small laws. No Go in sight.
-/
import Derived.Test.Qxb6603026aKosPure
import Derived.Test.Qxb6603026aPred
namespace Go.Proofs.Qxb6603026a

/-- as many steps as there are groups, no edge -/
def gN (k : Nat) : Gr := ⟨k, fun _ => 0, fun _ _ => 0⟩
theorem EV_range (gs : List (List Nat)) (v : Nat) : EV gs (List.range (v + 1)) = EV gs (List.range v) ++ [(v, Kf gs v)] := by
  simp [EV, List.range_succ]
theorem EV_length (gs : List (List Nat)) (l : List Nat) : (EV gs l).length = l.length := by simp [EV]
/-- what of the first order has been gone through, from its end -/
def back (gs : List (List Nat)) (pre : List Nat) (P : Nat) : List (Nat × Nat) := EV gs (pre.drop P).reverse
theorem back_step {gs : List (List Nat)} {pre : List Nat} {p : Nat} (hp : p < pre.length) : back gs pre p = back gs pre (p + 1) ++ [(nd0 pre p, Kf gs (nd0 pre p))] := by
  unfold back
  have e : pre.drop p = nd0 pre p :: pre.drop (p + 1) := by rw [List.drop_eq_getElem_cons hp]; simp [nd0, hp]
  rw [e, List.reverse_cons]
  unfold EV
  rw [List.map_append]
  rfl
theorem back_all (gs : List (List Nat)) (pre : List Nat) : back gs pre 0 = EV gs pre.reverse := by simp [back]
theorem back_none (gs : List (List Nat)) (pre : List Nat) : back gs pre pre.length = [] := by simp [back, EV]
theorem KS.back_le {g : Gr} {gs : List (List Nat)} {pre fin : List Nat} (h : KS g gs pre fin) {p : Nat} (hp : p < g.n) (v : Nat) :
    cnt (back gs pre (p + 1)) v + (if v = Kf gs (nd0 pre p) then 1 else 0) ≤ cnt (EV gs (List.range g.n)) v := by
  have hl := h.plen
  rw [← cnt_snoc (back gs pre (p + 1)) (nd0 pre p) (Kf gs (nd0 pre p)) v, ← back_step (by omega), ← cnt_perm h.perm]
  have e : EV gs pre.reverse = back gs pre p ++ EV gs (pre.take p).reverse := by
    unfold back
    have : pre = pre.take p ++ pre.drop p := by simp
    conv => lhs; rw [this]
    simp [EV]
  rw [e, cnt_append]; omega
end Go.Proofs.Qxb6603026a
