/- The same start of two ways: plain. -/
import Derived.Test.YtnoolgbbpekomaaGreatDoorPc
import Derived.Test.YtnoolgbbpekomaaGreatDoorUd
namespace Go.Proofs.YtnoolgbbpekomaaGreatDoor.Pc
open Go.RowKit YtnoolgbbpekomaaGreatDoorW.PrintWords YtnoolgbbpekomaaGreatDoorW.PrintLast YtnoolgbbpekomaaGreatDoorW.PrintMore T Tr Gp Fx Em Pa Pb
set_option linter.unusedVariables false
set_option linter.unusedSimpArgs false
theorem take_at {α : Type} {l : List α} {n i : Nat} (h : i < n) : (l.take n)[i]? = l[i]? := by rw [List.getElem?_take, if_pos h]
theorem cons_dec {α : Type} [DecidableEq α] (x y : α) (s t : List α) : decide (x :: s = y :: t) = (decide (x = y) && decide (s = t)) := by
  rw [← Bool.decide_and, decide_eq_decide, List.cons.injEq]
theorem ktt (x y : Int) (D : Bool) : (decide ((if true = true then (none : Option Int) else some x) = (if true = true then none else some y)) && D) = D := by simp
theorem ktf (x y : Int) (D : Bool) : (decide ((if true = true then (none : Option Int) else some x) = (if false = true then none else some y)) && D) = false := by simp
theorem kft (x y : Int) (D : Bool) : (decide ((if false = true then (none : Option Int) else some x) = (if true = true then none else some y)) && D) = false := by simp
theorem kff (x y : Int) (D : Bool) : (decide ((if false = true then (none : Option Int) else some x) = (if false = true then none else some y)) && D) = (decide (x = y) && D) := by simp
theorem start_go (a b : S42) (n : Nat) (ha : n ≤ a.f1.size) (hb : n ≤ b.f1.size) (hn : n ≤ 1000000000000) (hsa : a.f2.length ≤ 1000000000000) (hsb : b.f2.length ≤ 1000000000000) : ∀ d m : Nat, m + d = n →
    Ev (fun k => spec_sameStart.l0 k (n : Int) (m : Int) a.f0 a.f1 a.f2 a.f3 b.f0 b.f1 b.f2 b.f3) (decide (((wayM a).take n).drop m = ((wayM b).take n).drop m))
  | 0, m, hm => by
    have hm : m = n := by omega
    subst hm
    have e1 : ((wayM a).take m).drop m = [] := List.drop_eq_nil_of_le (by rw [List.length_take]; omega)
    have e2 : ((wayM b).take m).drop m = [] := List.drop_eq_nil_of_le (by rw [List.length_take]; omega)
    rw [e1, e2]
    exact Ev.one (fun k => by rw [spec_sameStart.l0, if_neg (by omega)]; rfl)
  | d + 1, m, hm => by
    have hmn : m < n := by omega
    have h1 := drop_step ((take_at (l := wayM a) hmn).trans (wayM_at a m (by omega)))
    have h2 := drop_step ((take_at (l := wayM b) hmn).trans (wayM_at b m (by omega)))
    have ih := start_go a b n ha hb hn hsa hsb d (m + 1) (by omega)
    rw [h1, h2, cons_dec]
    refine Ev.step (f := fun k => (spec_Hole.f k a.f2 (m : Int)).bind fun t279 => (spec_Hole.f k b.f2 (m : Int)).bind fun t280 => if (t279 != t280) = true then some false else (spec_Hole.f k a.f2 (m : Int)).bind fun t281 => if t281 = true then spec_sameStart.l0 k (n : Int) ((m + 1 : Nat) : Int) a.f0 a.f1 a.f2 a.f3 b.f0 b.f1 b.f2 b.f3 else (if bt a.f1 (m : Int) = bt b.f1 (m : Int) then spec_sameStart.l0 k (n : Int) ((m + 1 : Nat) : Int) a.f0 a.f1 a.f2 a.f3 b.f0 b.f1 b.f2 b.f3 else some false)) (fun k => ?_) ?_
    · rw [spec_sameStart.l0, if_pos (by omega), if_pos (show (0 : Int) ≤ (m : Int) by omega), if_pos (show (m : Int) < (a.f1.size : Int) by omega), if_pos (show (m : Int) < (b.f1.size : Int) by omega), wrap_up (by omega)]
    · refine Ev.bind (hole_ev a.f2 hsa _) (Ev.bind (hole_ev b.f2 hsb _) ?_)
      cases ea : inSp a.f2 (m : Int) with
      | true =>
        cases eb : inSp b.f2 (m : Int) with
        | true =>
          have ih2 : Ev (fun k => (spec_Hole.f k a.f2 (m : Int)).bind fun t281 => if t281 = true then spec_sameStart.l0 k (n : Int) ((m + 1 : Nat) : Int) a.f0 a.f1 a.f2 a.f3 b.f0 b.f1 b.f2 b.f3 else (if bt a.f1 (m : Int) = bt b.f1 (m : Int) then spec_sameStart.l0 k (n : Int) ((m + 1 : Nat) : Int) a.f0 a.f1 a.f2 a.f3 b.f0 b.f1 b.f2 b.f3 else some false)) (decide (((wayM a).take n).drop (m + 1) = ((wayM b).take n).drop (m + 1))) := by
            have hh := hole_ev a.f2 hsa (m : Int)
            rw [ea] at hh
            exact Ev.bind hh (Ev.congr (fun k => by rw [if_pos rfl]) ih)
          rw [ktt]
          exact Ev.congr (fun k => by rw [if_neg (by decide)]) ih2
        | false =>
          rw [ktf]
          exact Ev.congr (fun k => by rw [if_pos (by decide)]) (Ev.now false)
      | false =>
        cases eb : inSp b.f2 (m : Int) with
        | true =>
          rw [kft]
          exact Ev.congr (fun k => by rw [if_pos (by decide)]) (Ev.now false)
        | false =>
          rw [kff]
          have hh := hole_ev a.f2 hsa (m : Int)
          rw [ea] at hh
          by_cases hc : bt a.f1 (m : Int) = bt b.f1 (m : Int)
          · have ih2 : Ev (fun k => (spec_Hole.f k a.f2 (m : Int)).bind fun t281 => if t281 = true then spec_sameStart.l0 k (n : Int) ((m + 1 : Nat) : Int) a.f0 a.f1 a.f2 a.f3 b.f0 b.f1 b.f2 b.f3 else (if bt a.f1 (m : Int) = bt b.f1 (m : Int) then spec_sameStart.l0 k (n : Int) ((m + 1 : Nat) : Int) a.f0 a.f1 a.f2 a.f3 b.f0 b.f1 b.f2 b.f3 else some false)) (decide (((wayM a).take n).drop (m + 1) = ((wayM b).take n).drop (m + 1))) :=
              Ev.bind hh (Ev.congr (fun k => by rw [if_neg (by decide), if_pos hc]) ih)
            rw [decide_eq_true hc, Bool.true_and]
            exact Ev.congr (fun k => by rw [if_neg (by decide)]) ih2
          · have ih2 : Ev (fun k => (spec_Hole.f k a.f2 (m : Int)).bind fun t281 => if t281 = true then spec_sameStart.l0 k (n : Int) ((m + 1 : Nat) : Int) a.f0 a.f1 a.f2 a.f3 b.f0 b.f1 b.f2 b.f3 else (if bt a.f1 (m : Int) = bt b.f1 (m : Int) then spec_sameStart.l0 k (n : Int) ((m + 1 : Nat) : Int) a.f0 a.f1 a.f2 a.f3 b.f0 b.f1 b.f2 b.f3 else some false)) false :=
              Ev.bind hh (Ev.congr (fun k => by rw [if_neg (by decide), if_neg hc]) (Ev.now false))
            rw [decide_eq_false hc, Bool.false_and]
            exact Ev.congr (fun k => by rw [if_neg (by decide)]) ih2
theorem start_ev (a b : S42) (n : Nat) (ha : n ≤ a.f1.size) (hb : n ≤ b.f1.size) (hn : n ≤ 1000000000000) (hsa : a.f2.length ≤ 1000000000000) (hsb : b.f2.length ≤ 1000000000000) :
    Ev (fun k => spec_sameStart.f k a.f0 a.f1 a.f2 a.f3 b.f0 b.f1 b.f2 b.f3 (n : Int)) (decide ((wayM a).take n = (wayM b).take n)) := by
  have := start_go a b n ha hb hn hsa hsb n 0 (by omega)
  rw [List.drop_zero, List.drop_zero] at this
  exact this
end Go.Proofs.YtnoolgbbpekomaaGreatDoor.Pc
