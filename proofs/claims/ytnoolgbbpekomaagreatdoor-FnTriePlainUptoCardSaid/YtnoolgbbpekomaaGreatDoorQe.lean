/- FnTriePlain: the plain law. -/
import Derived.Test.YtnoolgbbpekomaaGreatDoorPu
import Derived.Test.YtnoolgbbpekomaaGreatDoorPr
import Derived.Test.YtnoolgbbpekomaaGreatDoorVp
import Derived.Test.YtnoolgbbpekomaaGreatDoorPo
namespace Go.Proofs.YtnoolgbbpekomaaGreatDoor.Qe
open Go.RowKit YtnoolgbbpekomaaGreatDoorW.PrintWords YtnoolgbbpekomaaGreatDoorW.PrintLast YtnoolgbbpekomaaGreatDoorW.PrintMore T Tr Gp Fx Em Pa Pb Pc Pd
set_option linter.unusedVariables false
set_option linter.unusedSimpArgs false
theorem plain_small {l : List S42} (h : Small l) : Small (l.map plainM) :=
  ⟨by rw [List.length_map]; exact h.len, fun m hm => by obtain ⟨x, hx, rfl⟩ := List.mem_map.1 hm; exact Nat.zero_le _, fun m hm => by obtain ⟨x, hx, rfl⟩ := List.mem_map.1 hm; exact h.pre x hx⟩
theorem plain_ok {l : List S42} (h : l.all mOk = true) : (l.map plainM).all mOk = true := by
  rw [List.all_eq_true] at h ⊢
  intro m hm
  obtain ⟨x, hx, rfl⟩ := List.mem_map.1 hm
  have h1 := mOk_pre (h x hx)
  have h2 := mOk_id (h x hx)
  unfold mOk plainM
  rw [decide_eq_true h1, decide_eq_true h2]
  rfl
theorem FnTriePlain (l : List S42) (keys : List ByteArray) (hl : Small l) (hk : Keys keys) : Ev (fun k => laws_FnTriePlain.f k l keys) true := by
  unfold laws_FnTriePlain.f
  refine Ev.bind (f := fun k t451 => (if t451 = true then ((laws_zzFits5.f k keys).bind fun t452 => (laws_FnTriePlain.j0 k l keys (!t452))) else (laws_FnTriePlain.j0 k l keys true))) (fit3_ev l hl) ?_
  refine Ev.congr (fun k => by rw [if_pos rfl]) (Ev.bind (fit5_ev keys hk) ?_)
  refine Ev.step (f := fun k => (spec_MatchesOk.f k l).bind fun t453 => (if t453 = true then ((laws_plainly.f k l).bind fun t455 => ((spec_Turns.f k t455 false false true).bind fun t458 => ((impl_RunTrie.f t458 keys).bind fun bt461 => ((spec_Turns.f k t455 false false false).bind fun t468 => ((impl_RunTrie.f t468 keys).bind fun bt471 => (if (bt461.2.1.length : Int) = (keys.length : Int) then ((laws_sameRows.f k bt461.2.1 bt471.2.1).bind fun t478 => (if t478 = true then (if bt461.2.2 = bt471.2.2 then ((laws_triesWork.f k).bind fun t479 => (some t479)) else (some false)) else (some false))) else (some false))))))) else ((laws_triesWork.f k).bind fun t454 => (some t454)))) (fun k => by rw [laws_FnTriePlain.j0, if_neg (by decide)]) ?_
  refine Ev.bind (matches_ev l hl) ?_
  cases hok : l.all mOk with
  | false => exact Ev.congr (fun k => by rw [if_neg (by decide)]) works_then
  | true =>
    have h1 := plain_small hl
    have h2 := plain_ok hok
    have hle := left_len (l.map plainM)
    have hll := h1.len
    have hs := rows_same (E := leftE (l.map plainM)) (keys := keys) (by omega) hk
    refine Ev.congr (fun k => by rw [if_pos rfl]) (Ev.bind (plain_ev l hl.len) (Ev.bind (turns_ev false false true (l.map plainM) h1 h2) ?_))
    rw [run_f false false true h1 h2 hk]
    refine Ev.congr (fun k => by rw [Option.bind_some]) (Ev.bind (turns_ev false false false (l.map plainM) h1 h2) ?_)
    rw [run_f false false false h1 h2 hk]
    refine Ev.congr (f := fun k => (laws_sameRows.f k (rowsE (leftE (l.map plainM)) keys) (rowsE (leftE (l.map plainM)) keys)).bind fun t478 => (if t478 = true then ((laws_triesWork.f k).bind fun t479 => (some t479)) else (some false))) (fun k => ?_) (Ev.bind hs (Ev.congr (fun k => by rw [if_pos rfl]) works_then))
    rw [Option.bind_some, if_pos (by rw [rowsE_len])]
    congr 1
    funext t
    by_cases ht : t = true
    · rw [if_pos ht, if_pos ht, if_pos rfl]
    · rw [if_neg ht, if_neg ht]
end Go.Proofs.YtnoolgbbpekomaaGreatDoor.Qe
