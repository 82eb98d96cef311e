/- The same way: plain. -/
import Derived.Test.YtnoolgbbpekomaaGreatDoorPe
import Derived.Test.YtnoolgbbpekomaaGreatDoorUe
namespace Go.Proofs.YtnoolgbbpekomaaGreatDoor.Pc
open Go.RowKit YtnoolgbbpekomaaGreatDoorW.PrintWords YtnoolgbbpekomaaGreatDoorW.PrintLast YtnoolgbbpekomaaGreatDoorW.PrintMore T Tr Gp Fx Em Pa Pb
set_option linter.unusedVariables false
set_option linter.unusedSimpArgs false
theorem path_ev (a b : S42) (hn : a.f1.size ≤ 1000000000000) (hsa : a.f2.length ≤ 1000000000000) (hsb : b.f2.length ≤ 1000000000000) :
    Ev (fun k => spec_SamePath.f k a.f0 a.f1 a.f2 a.f3 b.f0 b.f1 b.f2 b.f3) (decide (wayM a = wayM b)) := by
  by_cases h : a.f1.size = b.f1.size
  · have := start_ev a b a.f1.size (Nat.le_refl _) (by omega) hn hsa hsb
    rw [List.take_of_length_le (by rw [wayM_len]; omega), List.take_of_length_le (by rw [wayM_len]; omega)] at this
    exact Ev.congr (fun k => by unfold spec_SamePath.f; rw [if_pos (by omega)]) (Ev.bind this (Ev.now _))
  · have e : decide (wayM a = wayM b) = false := by
      rw [decide_eq_false_iff_not]
      intro e
      have := congrArg List.length e
      rw [wayM_len, wayM_len] at this
      exact h this
    rw [e]
    exact Ev.congr (fun k => by unfold spec_SamePath.f; rw [if_neg (by omega)]) (Ev.now false)
end Go.Proofs.YtnoolgbbpekomaaGreatDoor.Pc
