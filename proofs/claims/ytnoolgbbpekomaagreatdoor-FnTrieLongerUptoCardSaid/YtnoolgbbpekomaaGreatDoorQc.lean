/- FnTrieLonger: the plain law. -/
import Derived.Test.YtnoolgbbpekomaaGreatDoorPc
import Derived.Test.YtnoolgbbpekomaaGreatDoorPh
import Derived.Test.YtnoolgbbpekomaaGreatDoorVl
import Derived.Test.YtnoolgbbpekomaaGreatDoorPo
namespace Go.Proofs.YtnoolgbbpekomaaGreatDoor.Qc
open Go.RowKit YtnoolgbbpekomaaGreatDoorW.PrintWords YtnoolgbbpekomaaGreatDoorW.PrintLast YtnoolgbbpekomaaGreatDoorW.PrintMore T Tr Gp Fx Em Pa Pb Pc
set_option linter.unusedVariables false
set_option linter.unusedSimpArgs false
theorem mat_more : ∀ (p : Wy) (key more : List Int), mat p key = true → mat p (key ++ more) = true
  | [], key, more, _ => mat_nil _
  | _ :: _, [], _, h => by cases h
  | none :: r, _ :: k, more, h => mat_more r k more h
  | some c :: r, b :: k, more, h => by
    have h2 : (decide (c = b) && mat r k) = true := h
    rw [Bool.and_eq_true] at h2
    show (decide (c = b) && mat r (k ++ more)) = true
    rw [h2.1, mat_more r k more h2.2]
    rfl
theorem FnTrieLonger (l : List S42) (key more : ByteArray) (hl : Small l) (hk : key.size ≤ 100000000) (hm : more.size ≤ 100000000) : Ev (fun k => laws_FnTrieLonger.f k l key more) true := by
  unfold laws_FnTrieLonger.f
  refine Ev.bind (f := fun k t388 => (if t388 = true then (if (key.size : Int) > 2147483647 then (laws_FnTrieLonger.j0 k l key more true) else (laws_FnTrieLonger.j0 k l key more (decide ((more.size : Int) > 2147483647)))) else (laws_FnTrieLonger.j0 k l key more true))) (fit3_ev l hl) ?_
  refine Ev.congr (f := fun k => laws_FnTrieLonger.j0 k l key more false) (fun k => by rw [if_pos rfl, if_neg (by omega), decide_eq_false (show ¬ (more.size : Int) > 2147483647 by omega)]) ?_
  refine Ev.step (f := fun k => (spec_MatchesOk.f k l).bind fun t389 => (if t389 = true then (if key.size + more.size ≤ 9223372036854775807 then ((laws_of.f k l (([key, key ++ more] : List ByteArray))).bind fun t393 => (if (t393.length : Int) = 2 then (if 0 < (t393.length : Int) then (if 1 < (t393.length : Int) then ((laws_within.f k (rd_L8 t393 0) (rd_L8 t393 1)).bind fun t398 => (if t398 = true then ((laws_triesWork.f k).bind fun t399 => (some t399)) else (some false))) else (none)) else (none)) else (some false))) else (none)) else ((laws_triesWork.f k).bind fun t400 => (some t400)))) (fun k => by rw [laws_FnTrieLonger.j0, if_neg (by decide)]) ?_
  refine Ev.bind (matches_ev l hl) ?_
  cases hok : l.all mOk with
  | false => exact Ev.congr (fun k => by rw [if_neg (by decide)]) works_then
  | true =>
    have hks : Keys [key, key ++ more] := ⟨by simp, fun s hs => by
      rcases List.mem_cons.1 hs with e | e
      · rw [e]; omega
      · rw [List.mem_singleton.1 e, size_app]; omega⟩
    have hof := of_ev hl hok hks
    have hle := left_len l
    have hll := hl.len
    have h1 := found_len (leftE l) (bytesOf key)
    have h2 := found_len (leftE l) (bytesOf (key ++ more))
    have hw := within_ev (found (leftE l) (bytesOf key)) (found (leftE l) (bytesOf (key ++ more))) (by omega) (by omega) (fun x hx => by
      obtain ⟨e, he, hm, hi⟩ := found_mem.1 hx
      exact found_mem.2 ⟨e, he, by rw [bytes_app]; exact mat_more _ _ _ hm, hi⟩)
    have hr : rowsE (leftE l) [key, key ++ more] = [found (leftE l) (bytesOf key), found (leftE l) (bytesOf (key ++ more))] := rfl
    rw [hr] at hof
    refine Ev.congr (fun k => by rw [if_pos rfl, if_pos (by omega)]) (Ev.bind hof ?_)
    refine Ev.congr (f := fun k => (laws_within.f k (found (leftE l) (bytesOf key)) (found (leftE l) (bytesOf (key ++ more)))).bind fun t398 => (if t398 = true then ((laws_triesWork.f k).bind fun t399 => (some t399)) else (some false))) (fun k => ?_) (Ev.bind hw (Ev.congr (fun k => by rw [if_pos rfl]) works_then))
    rw [if_pos (len2 _ _), if_pos (by rw [len2]; decide), if_pos (by rw [len2]; decide)]
    rfl
end Go.Proofs.YtnoolgbbpekomaaGreatDoor.Qc
