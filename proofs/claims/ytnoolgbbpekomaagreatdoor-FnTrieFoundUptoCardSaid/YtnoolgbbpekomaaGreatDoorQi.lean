/- FnTrieAll: the plain law, and the function whole. -/
import Derived.Test.YtnoolgbbpekomaaGreatDoorWa
namespace Go.Proofs.YtnoolgbbpekomaaGreatDoor.Qi
open Go.RowKit YtnoolgbbpekomaaGreatDoorW.PrintWords YtnoolgbbpekomaaGreatDoorW.PrintLast YtnoolgbbpekomaaGreatDoorW.PrintMore T Tr Gp Fx Em Pa Pb Pc Wa
set_option linter.unusedVariables false
set_option linter.unusedSimpArgs false
theorem put_new (n : Int) : ∀ l : List Int, n ∉ l → (put n l).length = l.length + 1
  | [], _ => rfl
  | a :: t, h => by
    rw [List.mem_cons, not_or] at h
    unfold put
    split
    · rw [List.length_cons, put_new n t h.2, List.length_cons]
    · rw [if_neg (fun e => h.1 e.symm)]
      rfl
theorem found_snoc (E : List En) (e : En) (key : List Int) : found (E ++ [e]) key = if mat e.1 key = true then put e.2 (found E key) else found E key := by
  unfold found
  rw [List.foldl_append]
  rfl
theorem within_f (n : Int) : spec_Within.f n 0 1099511627776 = some (decide (0 ≤ n ∧ n ≤ 1099511627776)) := by
  unfold spec_Within.f
  by_cases h2 : n ≥ 0
  · rw [if_pos h2]
    congr 1
    rw [decide_eq_decide]
    exact ⟨fun h => ⟨h2, h⟩, fun h => h.2⟩
  · rw [if_neg h2, decide_eq_false (fun h => h2 h.1)]
theorem left_snoc (l : List S42) (m : S42) : leftE (l ++ [m]) = stepM (leftE l) m := by
  unfold leftE
  rw [List.foldl_append]
  rfl
theorem small_snoc {l : List S42} (h : Small l) (h2 : l.length ≤ 4000000) (m : S42) (hm : m.f2.length ≤ 100000000) (hp : m.f1.size ≤ 100000000) : Small (l ++ [m]) := by
  refine ⟨by rw [List.length_append]; simp only [List.length_singleton]; omega, fun x hx => ?_, fun x hx => ?_⟩
  · rcases List.mem_append.1 hx with hx | hx
    · exact h.sp x hx
    · rw [List.mem_singleton.1 hx]; exact hm
  · rcases List.mem_append.1 hx with hx | hx
    · exact h.pre x hx
    · rw [List.mem_singleton.1 hx]; exact hp
theorem way_empty (f0 : Bool) (n : Int) : wayM (⟨f0, ⟨#[]⟩, [], n⟩ : S42) = [] := List.eq_nil_of_length_eq_zero (by rw [wayM_len]; rfl)
theorem row_put (n : Int) (a : List Int) (h : a.length ≤ 1000000000) : Row n a (put n a) := by
  have hl := put_len n a
  refine ⟨?_, ?_, ?_, hl, by omega⟩
  · have := Ev.rounds (Pb.has_ev (put n a) (by omega) n)
    rwa [decide_eq_true (put_mem.2 (.inl rfl))] at this
  · exact Ev.rounds (Pb.within_ev a (put n a) (by omega) (by omega) (fun x hx => put_mem.2 (.inr hx)))
  · obtain ⟨k, hk⟩ := Ev.rounds (Pb.has_ev a (by omega) n)
    exact ⟨k, _, hk, fun h => put_new n a (of_decide_eq_false h)⟩
theorem rd_rows (E : List En) {keys : List ByteArray} {i : Nat} (h : i < keys.length) : rd_L8 (rowsE E keys) (i : Int) = found E (bytesOf keys[i]) := by
  rw [rdL (by rw [rowsE_len]; exact h)]
  unfold rowsE
  rw [List.getElem_map]
theorem calls {w : World} {A0 A2 : Option Addr} {c0 c2 : Nat} {l0 : List S42} {n : Int} {l2 : List ByteArray} (hC0 : Kd.C k42 w A0 l0.length l0) (hc0 : l0.length ≤ c0) (hC2 : Kd.C Kd.string w A2 l2.length l2) (hc2 : l2.length ≤ c2) (hl : Pi.Laid w) (hs : Small l0) (h2 : l0.length ≤ 4000000) (hk : Keys l2) :
    Calls Tryz.prog 5 #[.slice A0 l0.length c0, .int .i64 n, .slice A2 l2.length c2] w fun e w' => e = .returned (.bool true) ∧ Below w.heap.size w w' := by
  have hsm := small_snoc hs h2 (⟨false, ⟨#[]⟩, [], n⟩ : S42) (Nat.zero_le _) (Nat.zero_le _)
  have hok : l0.all mOk = true → decide (0 ≤ n ∧ n ≤ 1099511627776) = true → (l0 ++ [(⟨false, ⟨#[]⟩, [], n⟩ : S42)]).all mOk = true := by
    intro h1 h3
    rw [List.all_append, h1, Bool.true_and, List.all_cons, List.all_nil, Bool.and_true]
    unfold mOk
    show (decide ((0 : Nat) ≤ 2000) && (List.all [] spOk && decide (0 ≤ n ∧ n ≤ 1099511627776))) = true
    rw [h3]
    rfl
  refine all_calls hC0 hc0 hC2 hc2 hl hs hk _ (within_f n) (r1 := rowsE (leftE l0) l2) (r2 := rowsE (leftE (l0 ++ [(⟨false, ⟨#[]⟩, [], n⟩ : S42)])) l2) (fun h _ => Ev.rounds (of_ev hs h hk)) (fun h h3 => Ev.rounds (of_ev hsm (hok h h3) hk)) (rowsE_len _ _) (rowsE_len _ _) (fun i hi => ?_)
  rw [rd_rows _ hi, rd_rows _ hi, left_snoc]
  have e : stepM (leftE l0) (⟨false, ⟨#[]⟩, [], n⟩ : S42) = leftE l0 ++ [([], n)] := by
    unfold stepM
    rw [if_neg Bool.false_ne_true]
    unfold ent
    rw [way_empty]
  rw [e, found_snoc, if_pos (mat_nil _)]
  have := found_len (leftE l0) (bytesOf l2[i])
  have := left_len l0
  exact row_put n _ (by omega)
end Go.Proofs.YtnoolgbbpekomaaGreatDoor.Qi
