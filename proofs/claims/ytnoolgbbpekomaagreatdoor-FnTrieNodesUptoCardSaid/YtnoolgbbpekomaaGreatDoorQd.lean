/- FnTrieNodes: the plain law. -/
import Derived.Test.YtnoolgbbpekomaaGreatDoorPt
import Derived.Test.YtnoolgbbpekomaaGreatDoorPv
import Derived.Test.YtnoolgbbpekomaaGreatDoorVn
namespace Go.Proofs.YtnoolgbbpekomaaGreatDoor.Qd
open Go.RowKit YtnoolgbbpekomaaGreatDoorW.PrintWords YtnoolgbbpekomaaGreatDoorW.PrintLast YtnoolgbbpekomaaGreatDoorW.PrintMore T Tr Gp Fx Em Pa Pb Pc Pd
set_option linter.unusedVariables false
set_option linter.unusedSimpArgs false
theorem keys_nil : Keys [] := ⟨by decide, fun s hs => by cases hs⟩
theorem run_nil : impl_RunTrie.f ([] : List S64) ([] : List ByteArray) = some ([], [], 1) := by
  have hs : Small [] := ⟨by decide, fun m hm => (by cases hm), fun m hm => by cases hm⟩
  have := run_f false false false (l := []) (keys := []) hs rfl keys_nil
  exact this
theorem nodes_up (l : List S42) : (Em.ways (upE l l.length)).length = nodes (l.map ent) := by
  unfold nodes
  refine once_same (ways_ok _).1 (ways_ok _).1 (fun q => ?_)
  rw [(ways_ok _).2, (ways_ok _).2]
  unfold Live upE
  rw [List.take_length]
  simp only [List.mem_reverse]
theorem FnTrieNodes (l : List S42) (hl : Small l) : Ev (fun k => laws_FnTrieNodes.f k l) true := by
  unfold laws_FnTrieNodes.f
  refine Ev.bind (f := fun k t418 => (if t418 = true then ((spec_MatchesOk.f k l).bind fun t419 => (if t419 = true then ((laws_there.f k l).bind fun t421 => ((spec_Turns.f k t421 false false false).bind fun t424 => ((impl_RunTrie.f t424 ([] : List ByteArray)).bind fun bt427 => ((impl_RunTrie.f ([] : List (S64)) ([] : List ByteArray)).bind fun bt434 => ((spec_Ways.f k t421).bind fun t441 => (if (wrap64 (bt427.2.2 - bt434.2.2)) = t441 then ((laws_triesWork.f k).bind fun t442 => (some t442)) else (some false))))))) else ((laws_triesWork.f k).bind fun t420 => (some t420)))) else (some true))) (fit3_ev l hl) ?_
  refine Ev.congr (fun k => by rw [if_pos rfl]) (Ev.bind (matches_ev l hl) ?_)
  cases hok : l.all mOk with
  | false => exact Ev.congr (fun k => by rw [if_neg (by decide)]) works_then
  | true =>
    have h1 := there_small hl
    have h2 := there_ok hok
    have h3 := there_in l
    have hp : ∀ m ∈ l.map thereM, m.f1.size ≤ 2000 := fun m hm => mOk_pre (List.all_eq_true.1 h2 m hm)
    have hw := sways_ev (l.map thereM) h1 hp
    have hb := ways_len (l.map thereM) hp _ (Nat.le_refl _)
    have hpos := ways_pos (upE (l.map thereM) (l.map thereM).length)
    rw [nodes_up] at hb hpos
    have hll := h1.len
    refine Ev.congr (fun k => by rw [if_pos rfl]) (Ev.bind (there_ev l hl.len) (Ev.bind (turns_ev false false false (l.map thereM) h1 h2) ?_))
    rw [run_f false false false h1 h2 keys_nil, left_adds _ h3]
    refine Ev.congr (f := fun k => (spec_Ways.f k (l.map thereM)).bind fun t441 => (if ((nodes ((l.map thereM).map ent) - 1 : Nat) : Int) = t441 then ((laws_triesWork.f k).bind fun t442 => (some t442)) else (some false))) (fun k => ?_) (Ev.bind hw (Ev.congr (fun k => by rw [if_pos rfl]) works_then))
    rw [Option.bind_some, run_nil, Option.bind_some]
    have e : wrap64 ((nodes ((l.map thereM).map ent) : Int) - 1) = ((nodes ((l.map thereM).map ent) - 1 : Nat) : Int) := by
      unfold Go.RowKit.wrap64
      omega
    simp only [e]
end Go.Proofs.YtnoolgbbpekomaaGreatDoor.Qd
