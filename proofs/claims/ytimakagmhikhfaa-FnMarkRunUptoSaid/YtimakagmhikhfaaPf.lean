/- Behind each act the mark and the last index are as the definition tells: the plain law. -/
import Derived.Test.YtimakagmhikhfaaMx6
import Derived.Test.YtimakagmhikhfaaPc
namespace Go.Proofs.Ytimakagmhikhfaa.Pure
open Go.RowKit Go.Proofs.Ytimakagmhikhfaa.M Go.Proofs.Ytimakagmhikhfaa.Mk Go.Proofs.Ytimakagmhikhfaa.Sm Go.Proofs.YtimakagmhikhfaaW.PrintWords Go.Proofs.YtimakagmhikhfaaW.PrintLast
set_option linter.unusedVariables false
theorem run_go (r : List S34) (hr : r.length ≤ 1048576) (K : Nat) : ∀ d m : Nat, m + d = r.length → laws_FnMarkRun.l0 (d + 1 + K) r r (r.length : Int) (m : Int) = some true
  | 0, m, hm => by
    rw [show 0 + 1 + K = K + 1 by omega, laws_FnMarkRun.l0, if_neg (by omega), works_]
    rfl
  | d + 1, m, hm => by
    have e : wrap64 ((m : Int) + 1) = ((m + 1 : Nat) : Int) := by unfold wrap64; omega
    rw [show d + 1 + 1 + K = (d + 1 + K) + 1 by omega, laws_FnMarkRun.l0, if_pos (by omega), if_pos (by omega), if_pos (by omega), if_pos (by omega), if_pos rfl, if_pos rfl, e]
    exact run_go r hr K d (m + 1) (by omega)
theorem FnMarkRun (l : List S31) (h : tot l ≤ 1048576) : laws_FnMarkRun.f (l.length + 1) l = some true := by
  have hl := len_tot l
  have hf := fits l h 0
  unfold laws_FnMarkRun.f
  rw [show l.length + 1 = l.length + 1 + 0 by omega, hf, Option.bind_some, if_pos rfl, spec_f l h, Option.bind_some, impl_f l h]
  cases hr : run true l w0 [] with
  | none => simp [works_]
  | some r =>
    have hrl := run_len l _ _ _ r hr
    simp only [Option.getD_some, Option.isSome_some, if_true, Option.bind_some]
    have := run_go r (by omega) 0 r.length 0 (by omega)
    rw [hrl] at this ⊢
    simpa using this
end Go.Proofs.Ytimakagmhikhfaa.Pure
