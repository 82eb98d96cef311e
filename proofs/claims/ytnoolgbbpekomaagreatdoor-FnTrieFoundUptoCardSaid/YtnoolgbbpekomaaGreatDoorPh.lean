/- Whether a number is among some; all of some among others: plain. -/
import Derived.Test.YtnoolgbbpekomaaGreatDoorPb
import Derived.Test.YtnoolgbbpekomaaGreatDoorUc
namespace Go.Proofs.YtnoolgbbpekomaaGreatDoor.Pb
open Go.RowKit YtnoolgbbpekomaaGreatDoorW.PrintWords YtnoolgbbpekomaaGreatDoorW.PrintLast YtnoolgbbpekomaaGreatDoorW.PrintMore T Tr Gp Fx Em Pa
set_option linter.unusedVariables false
set_option linter.unusedSimpArgs false
/-! Has, within. -/
theorem has_go (l : List Int) (hl : l.length ≤ 1000000000000) (n : Int) : ∀ d m : Nat, m + d = l.length → Ev (fun k => spec_Has.l0 k n l (l.length : Int) (m : Int)) (decide (n ∈ l.drop m))
  | 0, m, hm => by
    have hm : m = l.length := by omega
    subst hm
    rw [drop_all]
    exact Ev.one (fun k => by rw [spec_Has.l0, if_neg (by omega)]; simp)
  | d + 1, m, hm => by
    have hml : m < l.length := by omega
    have hx := rdI hml
    have ih := has_go l hl n d (m + 1) (by omega)
    rw [List.drop_eq_getElem_cons hml]
    by_cases h : l[m] = n
    · exact Ev.one (fun k => by rw [spec_Has.l0, if_pos (by omega), if_pos (by omega), if_pos (by omega), hx, if_pos h, decide_eq_true (by rw [h]; exact List.mem_cons_self)])
    · have e : decide (n ∈ l[m] :: l.drop (m + 1)) = decide (n ∈ l.drop (m + 1)) := by
        rw [decide_eq_decide, List.mem_cons]
        exact ⟨fun h2 => h2.resolve_left (fun h3 => h h3.symm), .inr⟩
      rw [e]
      exact Ev.step (fun k => by rw [spec_Has.l0, if_pos (by omega), if_pos (by omega), if_pos (by omega), hx, if_neg h, wrap_up (by omega)]) ih
theorem has_ev (l : List Int) (hl : l.length ≤ 1000000000000) (n : Int) : Ev (fun k => spec_Has.f k l n) (decide (n ∈ l)) := has_go l hl n l.length 0 (by omega)
theorem within_go (a b : List Int) (ha : a.length ≤ 1000000000000) (hb : b.length ≤ 1000000000000) (h : ∀ x ∈ a, x ∈ b) : ∀ d m : Nat, m + d = a.length → Ev (fun k => laws_within.l0 k b a (a.length : Int) (m : Int)) true
  | 0, m, hm => Ev.one (fun k => by rw [laws_within.l0, if_neg (by omega)])
  | d + 1, m, hm => by
    have hml : m < a.length := by omega
    have hx := rdI hml
    have hh := has_ev b hb a[m]
    rw [decide_eq_true (h _ (List.getElem_mem hml))] at hh
    refine Ev.step (f := fun k => (spec_Has.f k b a[m]).bind fun t => if t = true then laws_within.l0 k b a (a.length : Int) ((m + 1 : Nat) : Int) else some false) (fun k => by rw [laws_within.l0, if_pos (by omega), if_pos (by omega), if_pos (by omega), hx, wrap_up (by omega)]) ?_
    refine Ev.bind hh ?_
    simp only [if_pos]
    exact within_go a b ha hb h d (m + 1) (by omega)
theorem within_ev (a b : List Int) (ha : a.length ≤ 1000000000000) (hb : b.length ≤ 1000000000000) (h : ∀ x ∈ a, x ∈ b) : Ev (fun k => laws_within.f k a b) true := within_go a b ha hb h a.length 0 (by omega)
end Go.Proofs.YtnoolgbbpekomaaGreatDoor.Pb
