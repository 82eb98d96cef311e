/- What the laws of the tries share: plain. The guards of size; that a trie works. -/
import Derived.Test.YtnoolgbbpekomaaGreatDoorPb
import Derived.Test.YtnoolgbbpekomaaGreatDoorVw
namespace Go.Proofs.YtnoolgbbpekomaaGreatDoor.Pc
open Go.RowKit YtnoolgbbpekomaaGreatDoorW.PrintWords YtnoolgbbpekomaaGreatDoorW.PrintLast YtnoolgbbpekomaaGreatDoorW.PrintMore T Tr Gp Fx Em Pa Pb
set_option linter.unusedVariables false
set_option linter.unusedSimpArgs false
/-! The guards of size. -/
theorem fit4 (m : S42) (h1 : m.f1.size ≤ 100000000) (h2 : m.f2.length ≤ 100000000) : laws_zzFits4.f m.f0 m.f1 m.f2 m.f3 = some true := by
  unfold laws_zzFits4.f
  rw [if_neg (by omega), if_neg (by omega)]
theorem fit3_go (l : List S42) (hl : Small l) : ∀ d m : Nat, m + d = l.length → Ev (fun k => laws_zzFits3.l0 k l (l.length : Int) (m : Int)) true
  | 0, m, hm => Ev.one (fun k => by rw [laws_zzFits3.l0, if_neg (by omega)])
  | d + 1, m, hm => by
    have hll := hl.len
    have hml : m < l.length := by omega
    have hx := rd42 hml
    have h1 := hl.sp _ (List.getElem_mem hml)
    have h2 := hl.pre _ (List.getElem_mem hml)
    exact Ev.step (fun k => by rw [laws_zzFits3.l0, if_pos (by omega), if_pos (by omega), if_pos (by omega), hx, fit4 _ h2 h1, Option.bind_some, if_pos rfl, wrap_up (by omega)]) (fit3_go l hl d (m + 1) (by omega))
theorem fit3_ev (l : List S42) (hl : Small l) : Ev (fun k => laws_zzFits3.f k l) true := by
  have hll := hl.len
  exact Ev.congr (fun k => by unfold laws_zzFits3.f; rw [if_neg (by omega)]; rfl) (fit3_go l hl l.length 0 (by omega))
theorem works_ev : Ev (fun k => laws_triesWork.f k) true := Ev.now true
theorem works_then : Ev (fun k => (laws_triesWork.f k).bind fun t => some t) true := Ev.bind works_ev (Ev.now true)
theorem drop_step {α : Type} {l : List α} {i : Nat} {x : α} (h : l[i]? = some x) : l.drop i = x :: l.drop (i + 1) := by
  obtain ⟨h1, h2⟩ := List.getElem?_eq_some_iff.1 h
  rw [List.drop_eq_getElem_cons h1, h2]
theorem mat_nil (key : List Int) : mat [] key = true := by cases key <;> rfl
theorem bytes_app (a b : ByteArray) : bytesOf (a ++ b) = bytesOf a ++ bytesOf b := by
  unfold bytesOf
  rw [ByteArray.data_append]
  simp
theorem size_app (a b : ByteArray) : (a ++ b).size = a.size + b.size := by simp
theorem len2 {α : Type} (a b : α) : (([a, b].length : Nat) : Int) = 2 := rfl
end Go.Proofs.YtnoolgbbpekomaaGreatDoor.Pc
