/- The contracts of spec.Marks and impl.RunMarks, as the laws' walks want them. -/
import Derived.Test.YtimakagmhikhfaaRn
namespace Go.Proofs.Ytimakagmhikhfaa.M
open Go.RowKit Go.Proofs.YtimakagmhikhfaaW.PrintWords Go.Proofs.YtimakagmhikhfaaW.PrintLast Go.Proofs.YtimakagmhikhfaaW.PrintMore Go.Proofs.Ytimakagmhikhfaa.Sm
def spec_Marks.f (l : List S31) : Option (List S34 × Bool) := if tot l ≤ 1000000000000 then some ((run true l w0 []).getD [], (run true l w0 []).isSome) else none
theorem spec_Marks.calls (A0 : Option Addr) (c0 : Nat) (l0 : List (S31)) (r1 : List (S34)) (r2 : Bool) (w : World) (hr0 : Kd.C k31 w A0 l0.length l0) (hc0 : l0.length ≤ c0) (h : spec_Marks.f l0 = some (r1, r2)) :
    Calls Try.prog 12 #[.slice A0 l0.length c0] w fun e w' => ∃ v0_ : Value, e = .returned (.tuple #[v0_, .bool r2]) ∧ Kd.S k34 34 w' w.heap.size (fun _ => True) v0_ r1 ∧ Below w.heap.size w w' := by
  unfold spec_Marks.f at h
  split at h
  · rename_i ht
    injection h with h
    injection h with h1 h2
    rw [← h1, ← h2]
    exact Rm.marks_calls A0 c0 l0 w hr0 hc0 (by omega)
  · cases h
def impl_RunMarks.f (l : List S31) : Option (List S34) := if tot l ≤ 1000000000000 then run true l w0 [] else none
theorem impl_RunMarks.calls (A0 : Option Addr) (c0 : Nat) (l0 : List (S31)) (r : List (S34)) (w : World) (hr0 : Kd.C k31 w A0 l0.length l0) (hc0 : l0.length ≤ c0) (h : impl_RunMarks.f l0 = some r) :
    Calls Try.prog 14 #[.slice A0 l0.length c0] w fun e w' => ∃ v0_ : Value, e = .returned (v0_) ∧ Kd.S k34 34 w' w.heap.size (fun _ => True) v0_ r ∧ Below w.heap.size w w' := by
  unfold impl_RunMarks.f at h
  split at h
  · rename_i ht
    exact Rn.runMarks_calls A0 c0 l0 r w hr0 hc0 ht h
  · cases h
end Go.Proofs.Ytimakagmhikhfaa.M
