/- FnTrieTurned: the plain law. -/
import Derived.Test.YtnoolgbbpekomaaGreatDoorPt
import Derived.Test.YtnoolgbbpekomaaGreatDoorPr
import Derived.Test.YtnoolgbbpekomaaGreatDoorVu
import Derived.Test.YtnoolgbbpekomaaGreatDoorPo
namespace Go.Proofs.YtnoolgbbpekomaaGreatDoor.Qf
open Go.RowKit YtnoolgbbpekomaaGreatDoorW.PrintWords YtnoolgbbpekomaaGreatDoorW.PrintLast YtnoolgbbpekomaaGreatDoorW.PrintMore T Tr Gp Fx Em Pa Pb Pc Pd
set_option linter.unusedVariables false
set_option linter.unusedSimpArgs false
theorem of_bind {l : List S42} {keys : List ByteArray} (hl : Small l) (h : l.all mOk = true) (hk : Keys keys) : Ev (fun k => laws_of.f k l keys) (rowsE (leftE l) keys) := of_ev hl h hk
theorem turned_go (T : List S42) (keys : List ByteArray) (hT : T.length ≤ 10000000) {r : Bool}
    (h : Ev (fun k => (laws_of.f k T keys).bind fun t502 => ((laws_of.f k T.reverse keys).bind fun t505 => (if (t502.length : Int) = (keys.length : Int) then ((laws_sameRows.f k t502 t505).bind fun t508 => (if t508 = true then ((laws_triesWork.f k).bind fun t509 => (some t509)) else (some false))) else (some false)))) r) : ∀ d i : Nat, i + d = T.length → Ev (fun k => laws_FnTrieTurned.l0 k T keys (T.reverse.take i) (T.length : Int) (i : Int)) r
  | 0, i, hi => by
    have e : T.reverse.take i = T.reverse := List.take_of_length_le (by rw [List.length_reverse]; omega)
    rw [e]
    exact Ev.step (fun k => by rw [laws_FnTrieTurned.l0, if_neg (by omega)]) h
  | d + 1, i, hi => by
    have hil : i < T.reverse.length := by rw [List.length_reverse]; omega
    have ih := turned_go T keys hT h d (i + 1) (by omega)
    have e1 : wrap64 ((wrap64 ((T.length : Int) - 1)) - (i : Int)) = ((T.length - 1 - i : Nat) : Int) := by
      unfold Go.RowKit.wrap64
      omega
    have hx := rd42 (l := T) (m := T.length - 1 - i) (by omega)
    have e2 : T.reverse.take (i + 1) = T.reverse.take i ++ [T[T.length - 1 - i]'(by omega)] := by
      rw [List.take_succ_eq_append_getElem hil, List.getElem_reverse]
    rw [e2] at ih
    refine Ev.step (fun k => ?_) ih
    have htl : (T.reverse.take i).length < 2513169434916 := by rw [List.length_take]; omega
    rw [laws_FnTrieTurned.l0, if_pos (by omega), e1, if_pos (by omega), if_pos (by omega), if_pos htl, hx, wrap_up (by omega)]
theorem FnTrieTurned (l : List S42) (keys : List ByteArray) (hl : Small l) (hk : Keys keys) : Ev (fun k => laws_FnTrieTurned.f k l keys) true := by
  unfold laws_FnTrieTurned.f
  refine Ev.bind (f := fun k t488 => (if t488 = true then ((laws_zzFits5.f k keys).bind fun t489 => (laws_FnTrieTurned.j0 k l keys (!t489))) else (laws_FnTrieTurned.j0 k l keys true))) (fit3_ev l hl) ?_
  refine Ev.congr (fun k => by rw [if_pos rfl]) (Ev.bind (fit5_ev keys hk) ?_)
  refine Ev.step (f := fun k => (spec_MatchesOk.f k l).bind fun t490 => (if t490 = true then ((laws_there.f k l).bind fun t492 => (laws_FnTrieTurned.l0 k t492 keys (([] : List (S42))) (t492.length : Int) 0)) else ((laws_triesWork.f k).bind fun t491 => (some t491)))) (fun k => by rw [laws_FnTrieTurned.j0, if_neg (by decide)]) ?_
  refine Ev.bind (matches_ev l hl) ?_
  cases hok : l.all mOk with
  | false => exact Ev.congr (fun k => by rw [if_neg (by decide)]) works_then
  | true =>
    have h1 := there_small hl
    have h2 := there_ok hok
    have h3 := there_in l
    have r1 : Small (l.map thereM).reverse := ⟨by rw [List.length_reverse]; exact h1.len, fun m hm => h1.sp m (List.mem_reverse.1 hm), fun m hm => h1.pre m (List.mem_reverse.1 hm)⟩
    have r2 : (l.map thereM).reverse.all mOk = true := by rw [List.all_reverse]; exact h2
    have o1 := of_ev h1 h2 hk
    have o2 := of_ev r1 r2 hk
    rw [left_adds _ h3] at o1
    rw [left_adds _ (fun m hm => h3 m (List.mem_reverse.1 hm))] at o2
    have es : rowsE ((l.map thereM).reverse.map ent) keys = rowsE ((l.map thereM).map ent) keys := rowsE_same (fun e => by simp) keys
    rw [es] at o2
    have hll := h1.len
    have hs := rows_same (E := (l.map thereM).map ent) (keys := keys) (by rw [List.length_map]; omega) hk
    refine Ev.congr (fun k => by rw [if_pos rfl]) (Ev.bind (there_ev l hl.len) ?_)
    refine turned_go (l.map thereM) keys h1.len ?_ (l.map thereM).length 0 (by omega)
    refine Ev.bind o1 (Ev.bind o2 ?_)
    refine Ev.congr (f := fun k => (laws_sameRows.f k (rowsE ((l.map thereM).map ent) keys) (rowsE ((l.map thereM).map ent) keys)).bind fun t508 => (if t508 = true then ((laws_triesWork.f k).bind fun t509 => (some t509)) else (some false))) (fun k => ?_) (Ev.bind hs (Ev.congr (fun k => by rw [if_pos rfl]) works_then))
    rw [if_pos (by rw [rowsE_len])]
end Go.Proofs.YtnoolgbbpekomaaGreatDoor.Qf
