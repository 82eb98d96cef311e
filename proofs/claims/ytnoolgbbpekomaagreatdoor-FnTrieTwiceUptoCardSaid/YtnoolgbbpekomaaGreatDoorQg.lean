/- FnTrieTwice: the plain law, and the function whole. -/
import Derived.Test.YtnoolgbbpekomaaGreatDoorWt
namespace Go.Proofs.YtnoolgbbpekomaaGreatDoor.Qg
open Go.RowKit YtnoolgbbpekomaaGreatDoorW.PrintWords YtnoolgbbpekomaaGreatDoorW.PrintLast YtnoolgbbpekomaaGreatDoorW.PrintMore T Tr Gp Fx Em Pa Pb Pc Wt
set_option linter.unusedVariables false
set_option linter.unusedSimpArgs false
theorem step_iff (E : List En) (m : S42) (e : En) : e ∈ stepM E m ↔ if m.f0 = true then e ∈ E ∧ e ≠ ent m else e ∈ E ∨ e = ent m := by
  unfold stepM
  by_cases h : m.f0 = true
  · rw [if_pos h, if_pos h]; exact out_mem
  · rw [if_neg h, if_neg h, List.mem_append, List.mem_singleton]
theorem twos_mem : ∀ (l : List S42) (E F : List En), (∀ e, e ∈ E ↔ e ∈ F) → ∀ e, e ∈ (twos l).foldl stepM E ↔ e ∈ l.foldl stepM F
  | [], E, F, h => h
  | m :: t, E, F, h => by
    have e2 : twos (m :: t) = m :: m :: twos t := rfl
    rw [e2]
    simp only [List.foldl_cons]
    refine twos_mem t _ _ (fun e => ?_)
    rw [step_iff, step_iff, step_iff]
    by_cases h0 : m.f0 = true
    · simp only [if_pos h0, h e]
      exact ⟨fun x => x.1, fun x => ⟨x, x.2⟩⟩
    · simp only [if_neg h0, h e]
      exact ⟨fun x => x.elim id .inr, .inl⟩
theorem twos_in {l : List S42} {m : S42} (h : m ∈ twos l) : m ∈ l := by
  unfold twos at h
  obtain ⟨x, hx, h2⟩ := List.mem_flatMap.1 h
  have : m = x := by simpa using h2
  rw [this]; exact hx
theorem calls {w : World} {A0 A1 : Option Addr} {c0 c1 : Nat} {l0 : List S42} {l1 : List ByteArray} (hC0 : Kd.C k42 w A0 l0.length l0) (hc0 : l0.length ≤ c0) (hC1 : Kd.C Kd.string w A1 l1.length l1) (hc1 : l1.length ≤ c1) (hl : Pi.Laid w) (hs : Small l0) (h2 : l0.length ≤ 4000000) (hk : Keys l1) :
    Calls Tryz.prog 14 #[.slice A0 l0.length c0, .slice A1 l1.length c1] w fun e w' => e = .returned (.bool true) ∧ Below w.heap.size w w' := by
  cases hok : l0.all mOk with
  | false => exact twice_not hC0 hc0 hC1 hc1 hl hs hk hok
  | true =>
    have s2 : Small (twos l0) := ⟨by rw [twos_len]; omega, fun m hm => hs.sp m (twos_in hm), fun m hm => hs.pre m (twos_in hm)⟩
    have o2 : (twos l0).all mOk = true := List.all_eq_true.2 (fun m hm => List.all_eq_true.1 hok m (twos_in hm))
    have e1 := of_ev hs hok hk
    have e2 := of_ev s2 o2 hk
    have es : rowsE (leftE (twos l0)) l1 = rowsE (leftE l0) l1 := rowsE_same (twos_mem l0 [] [] (fun _ => Iff.rfl)) l1
    rw [es] at e2
    have hll := left_len l0
    have hm := hs.len
    exact twice_calls hC0 hc0 hC1 hc1 hl hs hk hok (Ev.rounds e1) (Ev.rounds e2) (rowsE_len _ _) (Ev.rounds (rows_same (by omega) hk))
end Go.Proofs.YtnoolgbbpekomaaGreatDoor.Qg
