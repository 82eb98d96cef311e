/- What keys find, the guard of keys: plain. -/
import Derived.Test.YtnoolgbbpekomaaGreatDoorPc
import Derived.Test.YtnoolgbbpekomaaGreatDoorUz
namespace Go.Proofs.YtnoolgbbpekomaaGreatDoor.Pc
open Go.RowKit YtnoolgbbpekomaaGreatDoorW.PrintWords YtnoolgbbpekomaaGreatDoorW.PrintLast YtnoolgbbpekomaaGreatDoorW.PrintMore T Tr Gp Fx Em Pa Pb
set_option linter.unusedVariables false
set_option linter.unusedSimpArgs false
theorem of_ev {l : List S42} {keys : List ByteArray} (hl : Small l) (h : l.all mOk = true) (hk : Keys keys) : Ev (fun k => laws_of.f k l keys) (rowsE (leftE l) keys) := by
  unfold laws_of.f
  refine Ev.bind (f := fun _ t250 => (impl_RunTrie.f t250 keys).bind fun bt253 => some bt253.2.1) (turns_ev false false false l hl h) ?_
  rw [run_f false false false hl h hk, Option.bind_some]
  exact Ev.now _
theorem rdB {l : List ByteArray} {m : Nat} (h : m < l.length) : rdOf ByteArray.empty l (m : Int) = l[m] := by simp [rdOf, h]
theorem fit5_go (l : List ByteArray) (hl : Keys l) : ∀ d m : Nat, m + d = l.length → Ev (fun k => laws_zzFits5.l0 k l (l.length : Int) (m : Int)) true
  | 0, m, hm => Ev.one (fun k => by rw [laws_zzFits5.l0, if_neg (by omega)])
  | d + 1, m, hm => by
    have hll := hl.len
    have hml : m < l.length := by omega
    have hx := rdB hml
    have h1 := hl.key _ (List.getElem_mem hml)
    exact Ev.step (fun k => by rw [laws_zzFits5.l0, if_pos (by omega), if_pos (by omega), if_pos (by omega), hx, if_neg (by omega), wrap_up (by omega)]) (fit5_go l hl d (m + 1) (by omega))
theorem fit5_ev (l : List ByteArray) (hl : Keys l) : Ev (fun k => laws_zzFits5.f k l) true := by
  have hll := hl.len
  exact Ev.congr (fun k => by unfold laws_zzFits5.f; rw [if_neg (by omega)]; rfl) (fit5_go l hl l.length 0 (by omega))
end Go.Proofs.YtnoolgbbpekomaaGreatDoor.Pc
