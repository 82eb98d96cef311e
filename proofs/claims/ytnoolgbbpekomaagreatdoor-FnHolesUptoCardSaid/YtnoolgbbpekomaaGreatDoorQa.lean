/- FnHoles, FnHolesBad: the plain laws. -/
import Derived.Test.YtnoolgbbpekomaaGreatDoorPc
import Derived.Test.YtnoolgbbpekomaaGreatDoorVa
namespace Go.Proofs.YtnoolgbbpekomaaGreatDoor.Qa
open Go.RowKit YtnoolgbbpekomaaGreatDoorW.PrintWords YtnoolgbbpekomaaGreatDoorW.PrintLast YtnoolgbbpekomaaGreatDoorW.PrintMore T Tr Gp Fx Em Pa Pb Pc
set_option linter.unusedVariables false
set_option linter.unusedSimpArgs false
theorem hole_f (r : List Bool) (m : Nat) : laws_hole.f r (m : Int) = some (r.getD m false) := by
  unfold laws_hole.f
  by_cases h : m < r.length
  · rw [if_pos (by omega), if_pos (by omega)]
    simp [rdOf]
  · rw [if_neg (by omega), List.getD_eq_getElem?_getD, List.getElem?_eq_none (by omega)]
    rfl
theorem holes_go (l : List S67) (hl : l.length ≤ 100000000) (r : List Bool) (hr : r.length ≤ 1000001) (hg : ∀ k : Nat, r.getD k false = inSp l (k : Int)) : ∀ d m : Nat, m + d = max 2002 r.length → Ev (fun k => laws_FnHoles.l0 k l r (m : Int)) true
  | 0, m, hm => by
    refine Ev.step (fun k => by rw [laws_FnHoles.l0, if_neg (by omega)]) (Ev.step (f := fun k => (laws_triesWork.f k).bind fun t => some t) (fun k => ?_) (Ev.bind works_ev (Ev.now true)))
    have e : decide ((m : Int) < (r.length : Int)) = false := decide_eq_false (by omega)
    rw [e, laws_FnHoles.j1, if_neg (by decide)]
  | d + 1, m, hm => by
    have ih := holes_go l hl r hr hg d (m + 1) (by omega)
    have hj : Ev (fun k => laws_FnHoles.j1 k l r (m : Int) true) true := by
      refine Ev.step (f := fun k => (spec_Hole.f k l (m : Int)).bind fun t201 => if (r.getD m false != t201) = true then some false else laws_FnHoles.l0 k l r ((m + 1 : Nat) : Int)) (fun k => by rw [laws_FnHoles.j1, if_pos rfl, hole_f, Option.bind_some, wrap_up (by omega)]) ?_
      refine Ev.bind (hole_ev l (by omega) _) (Ev.congr (fun k => ?_) ih)
      rw [hg m, if_neg (by simp)]
    by_cases h : m ≤ 2001
    · exact Ev.step (fun k => by rw [laws_FnHoles.l0, if_pos (by omega)]) hj
    · refine Ev.step (fun k => ?_) hj
      rw [laws_FnHoles.l0, if_neg (by omega), decide_eq_true (show (m : Int) < (r.length : Int) by omega)]
theorem FnHoles (l : List S67) (sp d : Bool) (hl : l.length ≤ 100000000) : Ev (fun k => laws_FnHoles.f k l sp d) true := by
  refine Ev.congr (f := fun k => (spec_SpansOk.f k l).bind fun t192 => if t192 = true then ((spec_HolesText.f k l sp d).bind fun t194 => ((impl_Holes.f t194).bind fun bt195 => (if bt195.2 = true then (laws_FnHoles.l0 k l bt195.1 0) else (some false)))) else ((laws_triesWork.f k).bind fun t193 => (some t193))) (fun k => by unfold laws_FnHoles.f; rw [if_neg (by omega)]) ?_
  refine Ev.bind (spans_ev l (by omega)) ?_
  cases hok : l.all spOk with
  | false => exact Ev.congr (fun k => by rw [if_neg (by decide)]) (Ev.bind works_ev (Ev.now true))
  | true =>
    obtain ⟨r, hr, hg⟩ := parse_text sp d hok
    have hlen := Ss.parse_len hr
    have hi : impl_Holes.f (ba (textOf sp d l)) = some (r, true) := by
      unfold impl_Holes.f
      rw [ba_list, if_pos (text_tok sp d hok hl), hr]
    refine Ev.congr (fun k => by rw [if_pos rfl]) (Ev.bind (text_ev sp d l hl hok) (Ev.congr (fun k => ?_) (holes_go l hl r hlen hg (max 2002 r.length) 0 (by omega))))
    rw [hi, Option.bind_some, if_pos rfl]
    rfl
end Go.Proofs.YtnoolgbbpekomaaGreatDoor.Qa
