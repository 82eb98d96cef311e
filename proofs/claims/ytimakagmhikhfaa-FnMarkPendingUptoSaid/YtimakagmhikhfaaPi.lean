/- What is begun or done above the mark is pending, and who waits is counted: the plain law. -/
import Derived.Test.YtimakagmhikhfaaMx5
import Derived.Test.YtimakagmhikhfaaPc
namespace Go.Proofs.Ytimakagmhikhfaa.Pure
open Go.RowKit Go.Proofs.Ytimakagmhikhfaa.M Go.Proofs.Ytimakagmhikhfaa.Mk Go.Proofs.Ytimakagmhikhfaa.Sm Go.Proofs.YtimakagmhikhfaaW.PrintWords Go.Proofs.YtimakagmhikhfaaW.PrintLast
set_option linter.unusedVariables false
theorem apart_in (l : List S31) (hl : l.length ≤ 1048576) (i : Nat) (s : List S31) (hs : s.length ≤ 1048576) (a b : Int) (c : List Int) (G : Nat) : ∀ d m : Nat, m + d = s.length → (∃ b0, ∀ K, spec_Apart.l1 (d + 1 + K) l l (l.length : Int) (i : Int) s (s.length : Int) (m : Int) a b c = some b0) ∨ (∀ K, spec_Apart.l1 (d + 1 + K) l l (l.length : Int) (i : Int) s (s.length : Int) (m : Int) a b c = spec_Apart.l0 K l l (l.length : Int) (wrap64 ((i : Int) + 1)))
  | 0, m, hm => by
    right
    intro K
    rw [show 0 + 1 + K = K + 1 by omega, spec_Apart.l1, if_neg (by omega)]
  | d + 1, m, hm => by
    have e : wrap64 ((m : Int) + 1) = ((m + 1 : Nat) : Int) := by unfold wrap64; omega
    have ih := apart_in l hl i s hs a b c G d (m + 1) (by omega)
    have st : ∀ K, spec_Apart.l1 (d + 1 + 1 + K) l l (l.length : Int) (i : Int) s (s.length : Int) (m : Int) a b c = if a = 5 then (if ((rd_T31 s (m : Int)).f0) = 5 then (if b = ((rd_T31 s (m : Int)).f1) then (some false) else spec_Apart.l1 (d + 1 + K) l l (l.length : Int) (i : Int) s (s.length : Int) ((m + 1 : Nat) : Int) a b c) else spec_Apart.l1 (d + 1 + K) l l (l.length : Int) (i : Int) s (s.length : Int) ((m + 1 : Nat) : Int) a b c) else spec_Apart.l1 (d + 1 + K) l l (l.length : Int) (i : Int) s (s.length : Int) ((m + 1 : Nat) : Int) a b c := by
      intro K
      rw [show d + 1 + 1 + K = (d + 1 + K) + 1 by omega, spec_Apart.l1, if_pos (by omega), if_pos (by omega), if_pos (by omega), e]
    by_cases h1 : a = 5
    · by_cases h2 : (rd_T31 s (m : Int)).f0 = 5
      · by_cases h3 : b = (rd_T31 s (m : Int)).f1
        · left
          exact ⟨false, fun K => by rw [st, if_pos h1, if_pos h2, if_pos h3]⟩
        · rcases ih with ⟨b0, ih⟩ | ih
          · exact .inl ⟨b0, fun K => by rw [st, if_pos h1, if_pos h2, if_neg h3]; exact ih K⟩
          · exact .inr (fun K => by rw [st, if_pos h1, if_pos h2, if_neg h3]; exact ih K)
      · rcases ih with ⟨b0, ih⟩ | ih
        · exact .inl ⟨b0, fun K => by rw [st, if_pos h1, if_neg h2]; exact ih K⟩
        · exact .inr (fun K => by rw [st, if_pos h1, if_neg h2]; exact ih K)
    · rcases ih with ⟨b0, ih⟩ | ih
      · exact .inl ⟨b0, fun K => by rw [st, if_neg h1]; exact ih K⟩
      · exact .inr (fun K => by rw [st, if_neg h1]; exact ih K)
theorem apart_out (l : List S31) (hl : l.length ≤ 1048576) : ∀ d i : Nat, i + d = l.length → ∃ F b0, ∀ K, spec_Apart.l0 (F + K) l l (l.length : Int) (i : Int) = some b0
  | 0, i, hi => ⟨1, true, fun K => by rw [show 1 + K = K + 1 by omega, spec_Apart.l0, if_neg (by omega)]⟩
  | d + 1, i, hi => by
    have e : wrap64 ((i : Int) + 1) = ((i + 1 : Nat) : Int) := by unfold wrap64; omega
    obtain ⟨F, b0, ih⟩ := apart_out l hl d (i + 1) (by omega)
    have st : ∀ K, spec_Apart.l0 (K + 1) l l (l.length : Int) (i : Int) = spec_Apart.l1 K l l (l.length : Int) (i : Int) (l.take i) ((l.take i).length : Int) 0 ((rd_T31 l (i : Int)).f0) ((rd_T31 l (i : Int)).f1) ((rd_T31 l (i : Int)).f2) := by
      intro K
      rw [spec_Apart.l0, if_pos (by omega), if_pos (by omega), if_pos (by omega), if_pos (by omega), Option.bind_some, Int.toNat_natCast]
    have hin := apart_in l hl i (l.take i) (by rw [List.length_take]; omega) ((rd_T31 l (i : Int)).f0) ((rd_T31 l (i : Int)).f1) ((rd_T31 l (i : Int)).f2) 0 (l.take i).length 0 (by omega)
    rw [show ((0 : Nat) : Int) = 0 from rfl] at hin
    rcases hin with ⟨b1, h⟩ | h
    · exact ⟨(l.take i).length + 1 + 1, b1, fun K => by
        rw [show (l.take i).length + 1 + 1 + K = ((l.take i).length + 1 + K) + 1 by omega, st]
        exact h K⟩
    · exact ⟨(l.take i).length + 1 + F + 1, b0, fun K => by
        rw [show (l.take i).length + 1 + F + 1 + K = ((l.take i).length + 1 + (F + K)) + 1 by omega, st, h (F + K), e]
        exact ih K⟩
theorem apart_ (l : List S31) (hl : l.length ≤ 1048576) : ∃ F b0, ∀ K, spec_Apart.f (F + K) l = some b0 := by
  obtain ⟨F, b0, h⟩ := apart_out l hl l.length 0 (by omega)
  exact ⟨F, b0, h⟩
theorem pend_go (r : List S34) (hr : r.length ≤ 1048576) (K : Nat) : ∀ d m : Nat, m + d = r.length → laws_FnMarkPending.l0 (d + 1 + K) r r (r.length : Int) (m : Int) = some true
  | 0, m, hm => by
    rw [show 0 + 1 + K = K + 1 by omega, laws_FnMarkPending.l0, if_neg (by omega), works_]
    rfl
  | d + 1, m, hm => by
    have e : wrap64 ((m : Int) + 1) = ((m + 1 : Nat) : Int) := by unfold wrap64; omega
    rw [show d + 1 + 1 + K = (d + 1 + K) + 1 by omega, laws_FnMarkPending.l0, if_pos (by omega), if_pos (by omega), if_pos (by omega), if_pos (by omega), if_pos rfl, if_pos rfl, e]
    exact pend_go r hr K d (m + 1) (by omega)
theorem FnMarkPending_ (l : List S31) (h : tot l ≤ 1048576) : ∃ k, laws_FnMarkPending.f k l = some true := by
  have hl := len_tot l
  obtain ⟨F, b0, hA⟩ := apart_ l (by omega)
  refine ⟨l.length + 1 + (F + 1), ?_⟩
  have hf := fits l h (F + 1)
  have hA2 := hA (l.length + 1 + 1)
  rw [show F + (l.length + 1 + 1) = l.length + 1 + (F + 1) by omega] at hA2
  unfold laws_FnMarkPending.f
  rw [hf, Option.bind_some, if_pos rfl, spec_f l h, Option.bind_some]
  have hj : ∀ K x, laws_FnMarkPending.j0 (K + 1) l x true = some true := by
    intro K x
    rw [laws_FnMarkPending.j0, if_pos rfl, works_]
    rfl
  cases hr : run true l w0 [] with
  | none =>
    simp only [Option.isSome_none, Bool.false_eq_true, if_false]
    exact hj (l.length + 1 + F) _
  | some r =>
    have hrl := run_len l _ _ _ r hr
    simp only [Option.getD_some, Option.isSome_some, if_true, hA2, Option.bind_some]
    cases b0 with
    | false => exact hj (l.length + 1 + F) _
    | true =>
      rw [show l.length + 1 + (F + 1) = (l.length + 1 + F) + 1 by omega, laws_FnMarkPending.j0, if_neg (by simp), impl_f l h, hr, Option.bind_some, if_pos rfl]
      have := pend_go r (by omega) F r.length 0 (by omega)
      rw [hrl] at this ⊢
      exact this
end Go.Proofs.Ytimakagmhikhfaa.Pure
