/- Two equal lists of bools are told equal; how many waits are told. -/
import Derived.Test.YtimakagmhikhfaaMx3
import Derived.Test.YtimakagmhikhfaaPc
namespace Go.Proofs.Ytimakagmhikhfaa.Pure
open Go.RowKit Go.Proofs.Ytimakagmhikhfaa.M Go.Proofs.Ytimakagmhikhfaa.Mk Go.Proofs.Ytimakagmhikhfaa.Sm Go.Proofs.YtimakagmhikhfaaW.PrintWords Go.Proofs.YtimakagmhikhfaaW.PrintLast
set_option linter.unusedVariables false
theorem same_go_ (x : List Bool) (hx : x.length ≤ 2097152) (K : Nat) : ∀ d m : Nat, m + d = x.length → laws_sameBools.l0 (d + 1 + K) x x (x.length : Int) (m : Int) = some true
  | 0, m, hm => by
    rw [show 0 + 1 + K = K + 1 by omega, laws_sameBools.l0, if_neg (by omega)]
  | d + 1, m, hm => by
    have e : wrap64 ((m : Int) + 1) = ((m + 1 : Nat) : Int) := by unfold wrap64; omega
    rw [show d + 1 + 1 + K = (d + 1 + K) + 1 by omega, laws_sameBools.l0, if_pos (by omega), if_pos (by omega), if_pos (by omega), if_pos (by omega), if_neg (by simp), e]
    exact same_go_ x hx K d (m + 1) (by omega)
theorem same_ (x : List Bool) (hx : x.length ≤ 2097152) (F : Nat) (hF : x.length + 1 ≤ F) : laws_sameBools.f F x x = some true := by
  obtain ⟨K, rfl⟩ : ∃ K, F = x.length + 1 + K := ⟨F - (x.length + 1), by omega⟩
  unfold laws_sameBools.f
  rw [if_pos rfl]
  have := same_go_ x hx K x.length 0 (by omega)
  rw [show ((0 : Nat) : Int) = 0 from rfl] at this
  exact this
theorem run_ended_ : ∀ (l : List S31) (p : Bool) (σ : Wat) (ws : List Int) (r : List S34), run p l σ ws = some r → ∀ x ∈ r, x.f4.length ≤ ws.length + l.length
  | [], p, σ, ws, r, h => by simp [run] at h; subst h; intro x hx; cases hx
  | a :: t, p, σ, ws, r, h => by
    simp only [run] at h
    split at h
    · obtain ⟨r2, h2, rfl⟩ := Option.map_eq_some_iff.1 h
      have h3 := Rm.act_len p a σ ws
      intro x hx
      rcases List.mem_cons.1 hx with hx | hx
      · subst hx
        simp only [markOf, List.length_map, List.length_cons]
        omega
      · have := run_ended_ t _ _ _ r2 h2 x hx
        simp only [List.length_cons]
        omega
    · cases h
theorem spec_f_ (l : List S31) (h : tot l ≤ 4194304) : spec_Marks.f l = some ((run true l w0 []).getD [], (run true l w0 []).isSome) := by
  unfold spec_Marks.f
  rw [if_pos (by omega)]
theorem impl_f_ (l : List S31) (h : tot l ≤ 4194304) : impl_RunMarks.f l = run true l w0 [] := by
  unfold impl_RunMarks.f
  rw [if_pos (by omega)]
theorem w1_ (m : Nat) (h : m ≤ 4194304) : wrap64 ((m : Int) + 1) = ((m + 1 : Nat) : Int) := by unfold wrap64; omega
end Go.Proofs.Ytimakagmhikhfaa.Pure
