/- What the laws of the marks share, in plain words: the guard of size, and what both sides tell. -/
import Derived.Test.YtimakagmhikhfaaMx1
namespace Go.Proofs.Ytimakagmhikhfaa.Pure
open Go.RowKit Go.Proofs.Ytimakagmhikhfaa.M Go.Proofs.Ytimakagmhikhfaa.Mk Go.Proofs.Ytimakagmhikhfaa.Sm Go.Proofs.YtimakagmhikhfaaW.PrintWords Go.Proofs.YtimakagmhikhfaaW.PrintLast
set_option linter.unusedVariables false
theorem works_ : laws_marksWork.f = some true := by decide
theorem len_tot : ∀ l : List S31, l.length ≤ tot l
  | [] => Nat.le_refl _
  | a :: t => by
    have := len_tot t
    simp only [tot] at this
    simp only [tot, List.map_cons, List.sum_cons, List.length_cons, weight]
    omega
theorem mem_tot {a : S31} : ∀ {l : List S31}, a ∈ l → a.f2.length ≤ tot l
  | b :: t, h => by
    simp only [tot, List.map_cons, List.sum_cons, weight]
    rcases List.mem_cons.1 h with h | h
    · subst h; omega
    · have := mem_tot h
      simp only [tot] at this
      omega
theorem fits_go (l : List S31) (h : tot l ≤ 1048576) (K : Nat) : ∀ d m : Nat, m + d = l.length → laws_zzFits1.l0 (d + 1 + K) l (l.length : Int) (m : Int) = some true
  | 0, m, hm => by
    rw [show 0 + 1 + K = K + 1 by omega, laws_zzFits1.l0, if_neg (by omega)]
  | d + 1, m, hm => by
    have hl := len_tot l
    have hml : m < l.length := by omega
    have hx : rd_T31 l (m : Int) = l[m] := by simp [rd_T31, hml]
    have hw := mem_tot (a := l[m]) (List.getElem_mem hml)
    have e : wrap64 ((m : Int) + 1) = ((m + 1 : Nat) : Int) := by unfold wrap64; omega
    have e2 : laws_zzFits2.f (l[m]).f0 (l[m]).f1 (l[m]).f2 = some true := by unfold laws_zzFits2.f; rw [if_neg (by omega)]
    rw [show d + 1 + 1 + K = (d + 1 + K) + 1 by omega, laws_zzFits1.l0, if_pos (by omega), if_pos (by omega), if_pos (by omega), hx, e2, Option.bind_some, if_pos rfl, e]
    exact fits_go l h K d (m + 1) (by omega)
theorem fits (l : List S31) (h : tot l ≤ 1048576) (K : Nat) : laws_zzFits1.f (l.length + 1 + K) l = some true := by
  have hl := len_tot l
  unfold laws_zzFits1.f
  rw [if_neg (by omega)]
  have := fits_go l h K l.length 0 (by omega)
  rw [show ((0 : Nat) : Int) = 0 from rfl] at this
  exact this
theorem spec_f (l : List S31) (h : tot l ≤ 1048576) : spec_Marks.f l = some ((run true l w0 []).getD [], (run true l w0 []).isSome) := by
  unfold spec_Marks.f
  rw [if_pos (by omega)]
theorem impl_f (l : List S31) (h : tot l ≤ 1048576) : impl_RunMarks.f l = run true l w0 [] := by
  unfold impl_RunMarks.f
  rw [if_pos (by omega)]
theorem run_len : ∀ (l : List S31) (p : Bool) (σ : Wat) (ws : List Int) (r : List S34), run p l σ ws = some r → r.length = l.length
  | [], p, σ, ws, r, h => by simp [run] at h; subst h; rfl
  | a :: t, p, σ, ws, r, h => by
    simp only [run] at h
    split at h
    · obtain ⟨r2, h2, rfl⟩ := Option.map_eq_some_iff.1 h
      have := run_len t _ _ _ r2 h2
      simp [this]
    · cases h
end Go.Proofs.Ytimakagmhikhfaa.Pure
