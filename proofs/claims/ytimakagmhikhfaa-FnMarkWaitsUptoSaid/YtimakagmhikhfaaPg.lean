/- A wait ends as soon as the mark has come to its index: the plain law. -/
import Derived.Test.YtimakagmhikhfaaMx8
import Derived.Test.YtimakagmhikhfaaPc
namespace Go.Proofs.Ytimakagmhikhfaa.Pure
open Go.RowKit Go.Proofs.Ytimakagmhikhfaa.M Go.Proofs.Ytimakagmhikhfaa.Mk Go.Proofs.Ytimakagmhikhfaa.Sm Go.Proofs.YtimakagmhikhfaaW.PrintWords Go.Proofs.YtimakagmhikhfaaW.PrintLast
set_option linter.unusedVariables false
theorem same_go (x : List Bool) (hx : x.length ≤ 1048577) (K : Nat) : ∀ d m : Nat, m + d = x.length → laws_sameBools.l0 (d + 1 + K) x x (x.length : Int) (m : Int) = some true
  | 0, m, hm => by
    rw [show 0 + 1 + K = K + 1 by omega, laws_sameBools.l0, if_neg (by omega)]
  | d + 1, m, hm => by
    have e : wrap64 ((m : Int) + 1) = ((m + 1 : Nat) : Int) := by unfold wrap64; omega
    rw [show d + 1 + 1 + K = (d + 1 + K) + 1 by omega, laws_sameBools.l0, if_pos (by omega), if_pos (by omega), if_pos (by omega), if_pos (by omega), if_neg (by simp), e]
    exact same_go x hx K d (m + 1) (by omega)
theorem same (x : List Bool) (hx : x.length ≤ 1048577) (K : Nat) : laws_sameBools.f (x.length + 1 + K) x x = some true := by
  unfold laws_sameBools.f
  rw [if_pos rfl]
  have := same_go x hx K x.length 0 (by omega)
  rw [show ((0 : Nat) : Int) = 0 from rfl] at this
  exact this
theorem act_len' (p : Bool) (a : S31) (σ : Wat) (ws : List Int) : (actOk p a σ ws).2.2.length ≤ ws.length + 1 := Rm.act_len p a σ ws
theorem run_ended : ∀ (l : List S31) (p : Bool) (σ : Wat) (ws : List Int) (r : List S34), run p l σ ws = some r → ∀ x ∈ r, x.f4.length ≤ ws.length + l.length
  | [], p, σ, ws, r, h => by simp [run] at h; subst h; intro x hx; cases hx
  | a :: t, p, σ, ws, r, h => by
    simp only [run] at h
    split at h
    · obtain ⟨r2, h2, rfl⟩ := Option.map_eq_some_iff.1 h
      have h3 := act_len' p a σ ws
      intro x hx
      rcases List.mem_cons.1 hx with hx | hx
      · subst hx
        simp only [markOf, List.length_map, List.length_cons]
        omega
      · have := run_ended t _ _ _ r2 h2 x hx
        simp only [List.length_cons]
        omega
    · cases h
theorem waits_go (r : List S34) (hr : r.length ≤ 1048576) (hx : ∀ x ∈ r, x.f4.length ≤ 1048576) (K : Nat) (hK : 1048577 ≤ K) : ∀ d m : Nat, m + d = r.length → laws_FnMarkWaits.l0 (d + 1 + K) r r (r.length : Int) (m : Int) = some true
  | 0, m, hm => by
    rw [show 0 + 1 + K = K + 1 by omega, laws_FnMarkWaits.l0, if_neg (by omega), works_]
    rfl
  | d + 1, m, hm => by
    have e : wrap64 ((m : Int) + 1) = ((m + 1 : Nat) : Int) := by unfold wrap64; omega
    have hml : m < r.length := by omega
    have hrx : rd_T34 r (m : Int) = r[m] := by simp [rd_T34, hml]
    have hxl := hx r[m] (List.getElem_mem hml)
    have hs : laws_sameBools.f (d + 1 + K) (r[m]).f4 (r[m]).f4 = some true := by
      have := same (r[m]).f4 (by omega) (d + 1 + K - ((r[m]).f4.length + 1))
      rw [show (r[m]).f4.length + 1 + (d + 1 + K - ((r[m]).f4.length + 1)) = d + 1 + K by omega] at this
      exact this
    rw [show d + 1 + 1 + K = (d + 1 + K) + 1 by omega, laws_FnMarkWaits.l0, if_pos (by omega), if_pos (by omega), if_pos (by omega), if_pos (by omega), hrx, hs, Option.bind_some, if_pos rfl, e]
    exact waits_go r hr hx K hK d (m + 1) (by omega)
theorem FnMarkWaits (l : List S31) (h : tot l ≤ 1048576) : laws_FnMarkWaits.f (l.length + 1 + 1048577) l = some true := by
  have hl := len_tot l
  have hf := fits l h 1048577
  unfold laws_FnMarkWaits.f
  rw [hf, Option.bind_some, if_pos rfl, spec_f l h, Option.bind_some, impl_f l h]
  cases hr : run true l w0 [] with
  | none =>
    simp only [Option.isSome_none, Bool.false_eq_true, if_false, works_]
    rfl
  | some r =>
    have hrl := run_len l _ _ _ r hr
    have hre := run_ended l _ _ _ r hr
    simp only [Option.getD_some, Option.isSome_some, if_true, Option.bind_some]
    have := waits_go r (by omega) (fun x hx => by have := hre x hx; simp at this; omega) 1048577 (by omega) r.length 0 (by omega)
    rw [← hrl]
    exact this
end Go.Proofs.Ytimakagmhikhfaa.Pure
