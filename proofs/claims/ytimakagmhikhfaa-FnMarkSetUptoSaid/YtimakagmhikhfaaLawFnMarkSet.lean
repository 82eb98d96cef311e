/- From a mark that is set all goes as from 0, higher by it. Said where what the law reads is of bulk at most 1048576. -/
import Derived.Test.YtimakagmhikhfaaRo
import Derived.Test.YtimakagmhikhfaaPk
import Derived.Below
namespace Go.Proofs.Ytimakagmhikhfaa.fnMarkSet
open Go.ChangeShapes Go.WideShapes Go.ChangeAt Go.RowKit
set_option linter.unusedVariables false
theorem own : ownKnob Try.prog.godebug = none := by kernel_rfl
theorem laidOut : laidOutB Try.prog = true := by kernel_rfl
theorem contract (H : Type) (enc : TypeId × Value → H) (W : World) (base : Nat) (args : Array Value) (ds gs : List (DataW H)) (before : List MemPlace)
    (hval : ∀ (j : Nat) t v, Try.f8.params[j]? = some t → args[j]? = some v → Value.okWide Try.prog W .any base t v)
    (hW : DataW.Whole enc Try.prog Try.f8.params.toList Rows.fnMarkSetSpec.vars false W args.toList ds gs before) (hk : Rows.uptoSmall H (ds ++ gs) = true) :
    Calls Try.prog 8 args W fun e W' => ∃ v, e = .returned v ∧ Rows.fnMarkSetSpec.post enc Try.prog Try.f8 false true false false W args v W' := by
  have hW' := hW
  obtain ⟨p, q, hA0, hV, rfl, hfz, hnd⟩ := hW
  have hA : DataW.TrodAll enc Try.prog W 0 (fun _ => true) true Try.f8.params.toList args.toList ds p := hA0
  rw [Try.params8] at hA hval
  obtain ⟨v0, vs0, d0, ds0, p0, q0, hargs, rfl, rfl, h0, r0⟩ := trodAll_cons hA
  obtain ⟨v1, vs1, d1, ds1, p1, q1, rfl, rfl, rfl, h1, r1⟩ := trodAll_cons r0
  obtain ⟨rfl, rfl, rfl⟩ := trodAll_nil r1
  obtain rfl : args = #[v0, v1] := by cases args; simp_all
  obtain ⟨rfl, rfl⟩ := trodVars_none hV
  obtain ⟨a0, len0, cap0, rfl⟩ := okWide_slice Try.underlying22 (hval 0 22 v0 rfl rfl)
  have k0 := h0
  have lt0 : ∀ x ∈ p0, x.block < W.heap.size := by obtain ⟨m, hm⟩ := k0; exact DataW.trod_lt m _ _ _ hm
  obtain ⟨by_, rfl, rfl, rfl, w1⟩ := open_int Try.underlying3 (hval 1 3 v1 rfl rfl) h1
  obtain ⟨l, hl, hc, hC, ht⟩ := Ro.open_acts h0
  have hb := of_decide_eq_true hk
  simp only [List.append_nil, List.cons_append, List.nil_append, Rows.uptoBulkAll] at hb
  subst hl
  clear hA0
  obtain ⟨kk, hkk⟩ := Pure.FnMarkSet_ l by_ (by omega)
  refine (M.laws_FnMarkSet.calls kk a0 cap0 l by_ true W hC hc hkk).mono fun e W' ⟨he, bel⟩ => ?_
  subst he
  exact ⟨_, rfl, _, _, _, [], _, [], hW', trodAll_mk1 (shut_bool Try.underlying4 _), trodAll_cons_mk (Below.trod laidOut (by kernel_rfl) (of_decide_eq_true (by kernel_rfl)) k0 bel lt0) (trodAll_cons_mk (shut_int Try.underlying3 w1) trodAll_mk0), rfl, bel.frame _, fun h => by cases h⟩
set_option maxRecDepth 100000 in
theorem lifted (os : Os) (started : os.Started) (H : Type) (enc : TypeId × Value → H) (F : Stop.Interp) :
    ReturnsInHanded {} Try.checked os 8 .any ((Rows.OpenSpec.upto Rows.fnMarkSetSpec).pre6 enc Try.prog Try.f8 Rows.fnMarkSetUptoRow.domain false) (((Rows.OpenSpec.upto Rows.fnMarkSetSpec).at F).post enc Try.prog Try.f8 false true false false) := by
  refine returnsInHanded_of_cond (C := Try.checked) (s := Rows.OpenSpec.upto Rows.fnMarkSetSpec) (k := Rows.uptoSmall) rfl own started (by kernel_rfl) Try.func8
    (OpenSpec.witness (enc := enc) (C := Try.checked) (s := Rows.OpenSpec.upto Rows.fnMarkSetSpec) (k := Rows.uptoSmall) rfl false ⟨#[], #[.slice none 0 0, .int .i64 0], []⟩ 8 (by kernel_rfl) (by kernel_rfl) (by kernel_rfl)
      (x := ([.nil, .lit (.int .i64 0)], [], [])) (by kernel_rfl) rfl (by kernel_rfl)) ?_
  intro W base args ds gs before hval hW _ hk _
  exact contract H enc W base args ds gs before hval hW hk
theorem over : Rows.fnMarkSetUptoRow.holds Try.pinned (Rows.OpenSpec.upto Rows.fnMarkSetSpec) :=
  OpenClaim.holds_of_cond 8 Try.f8 rfl rfl rfl rfl rfl rfl rfl ⟨rfl, rfl, rfl, rfl, rfl⟩ rfl rfl rfl rfl rfl (by kernel_rfl) Try.func8 (by kernel_rfl)
    (of_decide_eq_true (by kernel_rfl)) (by unfold Func.isWrapper; first | (rw [if_pos (by decide +kernel)]; kernel_rfl) | (rw [if_neg (by decide +kernel)]; exact ⟨rfl, rfl⟩))
    (fun os started H enc _ F => lifted os started H enc F)
theorem proved : Rows.FnMarkSetUptoSaid := over
#print axioms proved
end Go.Proofs.Ytimakagmhikhfaa.fnMarkSet
namespace Go.Proofs.Ytimakagmhikhfaa
/-- The row, under a short name, for the claim. -/
theorem fnMarkSetUpto_holds : Rows.FnMarkSetUptoSaid := fnMarkSet.proved
end Go.Proofs.Ytimakagmhikhfaa
