/- Facts of the program that every row of the tries asks, once. -/
import Derived.Test.YtnoolgbbpekomaaGreatDoorCards
import Derived.ProofKit
import Derived.JoinedCond
namespace Go.Proofs.YtnoolgbbpekomaaGreatDoor.Gl
open Go
set_option maxRecDepth 100000
theorem and2 {a b : Bool} (h : a = true) (k : b = true) : (a && b) = true := by rw [h, k]; rfl
noncomputable abbrev P : Program := Tryz.pinned.checked.prog
theorem b1 : (laidOutB P) = true := by kernel_rfl
theorem b2 : (mapsRowed P) = true := by kernel_rfl
theorem b6 : ((P.stops == [])) = true := by kernel_rfl
theorem b8 : ((P.stopKnobs == [])) = true := by kernel_rfl
theorem b22 : ((Rows.fnHolesUptoRow.plainKeys == P.plainKeys)) = true := by kernel_rfl
theorem b24 : (P.stopsHeard) = true := by kernel_rfl
theorem b25 : (P.mayEnter) = true := by kernel_rfl
theorem b26 : ((Rows.fnHolesUptoRow.lifted == P.liftsFinal)) = true := by kernel_rfl
theorem b27 : ((P.make == some Rows.fnHolesUptoRow.make)) = true := by kernel_rfl
end Go.Proofs.YtnoolgbbpekomaaGreatDoor.Gl
