/- Rows of rows that are one: plain. -/
import Derived.Test.YtnoolgbbpekomaaGreatDoorPb
import Derived.Test.YtnoolgbbpekomaaGreatDoorUg
import Derived.Test.YtnoolgbbpekomaaGreatDoorVw
namespace Go.Proofs.YtnoolgbbpekomaaGreatDoor.Pb
open Go.RowKit YtnoolgbbpekomaaGreatDoorW.PrintWords YtnoolgbbpekomaaGreatDoorW.PrintLast YtnoolgbbpekomaaGreatDoorW.PrintMore T Tr Gp Fx Em Pa
set_option linter.unusedVariables false
set_option linter.unusedSimpArgs false
open Pw (ints_ev)
theorem rows_go (a : List (List Int)) (hl : a.length ≤ 1000000000000) (hr : ∀ r ∈ a, r.length ≤ 1000000000000) : ∀ d m : Nat, m + d = a.length → Ev (fun k => laws_sameRows.l0 k a a (a.length : Int) (m : Int)) true
  | 0, m, hm => Ev.one (fun k => by rw [laws_sameRows.l0, if_neg (by omega)])
  | d + 1, m, hm => by
    have hml : m < a.length := by omega
    have hx := rdL hml
    refine Ev.step (f := fun k => (laws_sameInts.f k a[m] a[m]).bind fun t => if t = true then laws_sameRows.l0 k a a (a.length : Int) ((m + 1 : Nat) : Int) else some false) (fun k => by rw [laws_sameRows.l0, if_pos (by omega), if_pos (by omega), if_pos (by omega), if_pos (by omega), hx, wrap_up (by omega)]) ?_
    refine Ev.bind (ints_ev _ (hr _ (List.getElem_mem hml))) ?_
    simp only [if_pos]
    exact rows_go a hl hr d (m + 1) (by omega)
theorem rows_ev (a : List (List Int)) (hl : a.length ≤ 1000000000000) (hr : ∀ r ∈ a, r.length ≤ 1000000000000) : Ev (fun k => laws_sameRows.f k a a) true := by
  have := rows_go a hl hr a.length 0 (by omega)
  exact Ev.congr (fun k => by unfold laws_sameRows.f; rw [if_pos rfl]; rfl) this
theorem rows_same {E : List En} {keys : List ByteArray} (h : E.length ≤ 1000000000000) (hk : Keys keys) : Ev (fun k => laws_sameRows.f k (rowsE E keys) (rowsE E keys)) true := by
  have := hk.len
  exact rows_ev _ (by rw [rowsE_len]; omega) (rowsE_row h)
end Go.Proofs.YtnoolgbbpekomaaGreatDoor.Pb
