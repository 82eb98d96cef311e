/- Short words for what the printed walks say again and again. -/
import Derived.Test.YtnoolgbbpekomaaGreatDoorMd
import Derived.Test.YtnoolgbbpekomaaGreatDoorWTab
import Derived.Test.YtnoolgbbpekomaaGreatDoorWRepsOne
import Derived.Test.YtnoolgbbpekomaaGreatDoorWGuard
namespace Go.Proofs.YtnoolgbbpekomaaGreatDoor.T
open Go.RowKit YtnoolgbbpekomaaGreatDoorW.PrintWords YtnoolgbbpekomaaGreatDoorW.PrintLast YtnoolgbbpekomaaGreatDoorW.PrintMore
set_option linter.unusedVariables false
theorem Xb {w W W' : World} (h : Below w.heap.size w W) (k : Below w.heap.size w W → Below w.heap.size w W' := by intro h; repeat (first | (with_reducible first | exact h | apply below_alloc | apply pw_below_drewN | apply below_drew1) | exact h)) : Below w.heap.size w W' := k h
section
variable {α : Type} {d : Kd α} {e base n : Nat} {ok : Nat → Prop} {W W' : World} {v : Value} {xs : List α} {A : Option Addr}
theorem XN (h : Kd.N d e W base ok v xs) (k : Kd.N d e W base ok v xs → Kd.N d e W' base ok v xs := by intro h; (with_reducible repeat (first | apply Kd.N_alloc | apply Kd.N_drewN | apply Kd.N_drew)); exact h) : Kd.N d e W' base ok v xs := k h
theorem XR (h : Kd.R d e W base ok v xs) (k : Kd.R d e W base ok v xs → Kd.R d e W' base ok v xs := by intro h; (with_reducible repeat (first | apply Kd.R_alloc | apply Kd.R_drewN | apply Kd.R_drew)); exact h) : Kd.R d e W' base ok v xs := k h
theorem XS (h : Kd.S d e W base ok v xs) (k : Kd.S d e W base ok v xs → Kd.S d e W' base ok v xs := by intro h; (with_reducible repeat (first | apply Kd.S_alloc | apply Kd.S_drewN | apply Kd.S_drew)); exact h) : Kd.S d e W' base ok v xs := k h
theorem XV (h : Kd.V d e W base ok v xs) (k : Kd.V d e W base ok v xs → Kd.V d e W' base ok v xs := by intro h; (with_reducible repeat (first | apply Kd.V_alloc | apply Kd.V_drewN | apply Kd.V_drew)); exact h) : Kd.V d e W' base ok v xs := k h
theorem XC (h : Kd.C d W A n xs) (k : Kd.C d W A n xs → Kd.C d W' A n xs := by intro h; repeat (first | exact h | (with_reducible refine Kd.C_alloc ?_ _) | (with_reducible refine Kd.C_drewN ?_ _) | (with_reducible refine Kd.C_drew ?_))) : Kd.C d W' A n xs := k h
end
end Go.Proofs.YtnoolgbbpekomaaGreatDoor.T
