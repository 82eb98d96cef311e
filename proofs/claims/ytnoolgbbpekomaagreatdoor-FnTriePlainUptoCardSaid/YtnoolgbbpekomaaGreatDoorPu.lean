/- Matches without holes: plain. -/
import Derived.Test.YtnoolgbbpekomaaGreatDoorPc
import Derived.Test.YtnoolgbbpekomaaGreatDoorUk
namespace Go.Proofs.YtnoolgbbpekomaaGreatDoor.Pd
open Go.RowKit YtnoolgbbpekomaaGreatDoorW.PrintWords YtnoolgbbpekomaaGreatDoorW.PrintLast YtnoolgbbpekomaaGreatDoorW.PrintMore T Tr Gp Fx Em Pa Pb Pc
set_option linter.unusedVariables false
set_option linter.unusedSimpArgs false
def plainM (m : S42) : S42 := ⟨m.f0, m.f1, [], m.f3⟩
theorem plain_go (l : List S42) (hl : l.length ≤ 10000000) : ∀ (d m : Nat) (acc : List S42), m + d = l.length → acc.length = m → Ev (fun k => laws_plainly.l0 k acc l (l.length : Int) (m : Int)) (acc ++ (l.drop m).map plainM)
  | 0, m, acc, hm, ha => by
    have hm : m = l.length := by omega
    subst hm
    rw [drop_all, List.map_nil, List.append_nil]
    exact Ev.one (fun k => by rw [laws_plainly.l0, if_neg (by omega)])
  | d + 1, m, acc, hm, ha => by
    have hml : m < l.length := by omega
    have hx := rd42 hml
    have ih := plain_go l hl d (m + 1) (acc ++ [plainM l[m]]) (by omega) (by rw [List.length_append, List.length_singleton, ha])
    rw [List.append_assoc, List.singleton_append] at ih
    rw [List.drop_eq_getElem_cons hml, List.map_cons]
    exact Ev.step (fun k => by rw [laws_plainly.l0, if_pos (by omega), if_pos (by omega), if_pos (by omega), if_pos (by omega), hx, wrap_up (by omega)]; rfl) ih
theorem plain_ev (l : List S42) (hl : l.length ≤ 10000000) : Ev (fun k => laws_plainly.f k l) (l.map plainM) := plain_go l hl l.length 0 [] (by omega) rfl
end Go.Proofs.YtnoolgbbpekomaaGreatDoor.Pd
