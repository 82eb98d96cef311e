/- Two compactions that FillTables gives one after the other take nothing that overlaps. Said where what the law reads is of bulk at most 1048576. -/
import Derived.Test.YtnineoajmgneiaaGreatYg
import Derived.Test.YtnineoajmgneiaaGreatVa
import Derived.Test.YtnineoajmgneiaaGreatYi
import Derived.Below
namespace Go.Proofs.YtnineoajmgneiaaGreat.fnFillApart
open Go.ChangeShapes Go.WideShapes Go.ChangeAt Go.RowKit
set_option linter.unusedVariables false
set_option linter.unusedSimpArgs false
theorem own : ownKnob Tryz.prog.godebug = none := by kernel_rfl
theorem laidOut : laidOutB Tryz.prog = true := by kernel_rfl
set_option maxRecDepth 100000 in
theorem contract (H : Type) (enc : TypeId × Value → H) (W : World) (base : Nat) (args : Array Value) (ds gs : List (DataW H)) (before : List MemPlace)
    (hval : ∀ (j : Nat) t v, Tryz.f7.params[j]? = some t → args[j]? = some v → Value.okWide Tryz.prog W .any base t v)
    (hW : DataW.Whole enc Tryz.prog Tryz.f7.params.toList Rows.fnFillApartSpec.vars false W args.toList ds gs before) (hk : Rows.uptoSmall H (ds ++ gs) = true) :
    Calls Tryz.prog 7 args W fun e W' => ∃ v, e = .returned v ∧ Rows.fnFillApartSpec.post enc Tryz.prog Tryz.f7 false true false false W args v W' := by
  have hW' := hW
  obtain ⟨p, q, hA0, hV, rfl, hfz, hnd⟩ := hW'
  have hA : DataW.TrodAll enc Tryz.prog W 0 (fun _ => true) true Tryz.f7.params.toList args.toList ds p := hA0
  rw [Tryz.params7] at hA hval
  obtain ⟨v0, vs0, d0, ds0, p0, q0, hargs, rfl, rfl, h0, r0⟩ := trodAll_cons hA
  obtain ⟨v1, vs1, d1, ds1, p1, q1, rfl, rfl, rfl, h1, r1⟩ := trodAll_cons r0
  obtain ⟨v2, vs2, d2, ds2, p2, q2, rfl, rfl, rfl, h2, r2⟩ := trodAll_cons r1
  obtain ⟨rfl, rfl, rfl⟩ := trodAll_nil r2
  obtain rfl : args = #[v0, v1, v2] := by cases args; simp_all
  obtain ⟨rfl, rfl⟩ := trodVars_none hV
  obtain ⟨a0, len0, cap0, rfl⟩ := okWide_slice Tryz.underlying22 (hval 0 22 v0 rfl rfl)
  have k0 := h0
  have lt0 : ∀ x ∈ p0, x.block < W.heap.size := by obtain ⟨m, hm⟩ := k0; exact DataW.trod_lt m _ _ _ hm
  obtain ⟨l0, hl0, hc0, hC0, ht0⟩ := Rw.open_levels h0
  have k1 := h1
  have lt1 : ∀ x ∈ p1, x.block < W.heap.size := by obtain ⟨m, hm⟩ := k1; exact DataW.trod_lt m _ _ _ hm
  obtain ⟨m1, a1, b1, c1, e1, f1, g1, o1, rfl⟩ := Rw.open_opts (hval 1 24 v1 rfl rfl) h1
  obtain ⟨a2, len2, cap2, rfl⟩ := okWide_slice Tryz.underlying44 (hval 2 44 v2 rfl rfl)
  have k2 := h2
  have lt2 : ∀ x ∈ p2, x.block < W.heap.size := by obtain ⟨m, hm⟩ := k2; exact DataW.trod_lt m _ _ _ hm
  obtain ⟨l2, hl2, hc2, hC2, ht2⟩ := Rs.open_steps h2
  have hb : Rows.uptoBulkAll ((d0 :: d1 :: d2 :: []) ++ ([] : List (DataW H))) ≤ 1048576 := of_decide_eq_true hk
  simp only [List.append_nil, List.cons_append, List.nil_append, Rows.uptoBulkAll] at hb
  subst hl0
  subst hl2
  have hl := Rw.levels_of (ls := l0) (by omega)
  clear hA0
  refine (fnFillApart.calls hC0 hc0 hl.1 (fun l h => (hl.2 l h).1) (fun l h => (hl.2 l h).2) hC2 hc2 (by omega)).mono fun e W' ⟨he, bel⟩ => ?_
  subst he
  exact ⟨_, rfl, _, _, _, [], _, [], hW, trodAll_mk1 (shut_bool Tryz.underlying4 _), (trodAll_cons_mk (Below.trod laidOut (by kernel_rfl) (of_decide_eq_true (by kernel_rfl)) k0 bel lt0) (trodAll_cons_mk (Below.trod laidOut (by kernel_rfl) (of_decide_eq_true (by kernel_rfl)) k1 bel lt1) (trodAll_cons_mk (Below.trod laidOut (by kernel_rfl) (of_decide_eq_true (by kernel_rfl)) k2 bel lt2) trodAll_mk0))), rfl, bel.frame _, fun h => by cases h⟩
set_option maxRecDepth 100000
noncomputable abbrev P : Program := Tryz.pinned.checked.prog
noncomputable abbrev fn : Func := Tryz.f7
abbrev s : ChangeSpec := (Rows.OpenSpec.upto Rows.fnFillApartSpec).bare
abbrev c : OpenClaim := Rows.fnFillApartUptoRow
abbrev f : FuncId := 7
theorem b0 : (c.wf (OpenSpec.ofChange s)) = true := by kernel_rfl
theorem b3 : (fn.params.all (P.readableRec ·)) = true := by kernel_rfl
theorem b4 : (namedTie P c.named s.vars) = true := by kernel_rfl
theorem b5 : ((c.stops == [])) = true := by kernel_rfl
theorem b7 : ((c.knobs == [])) = true := by kernel_rfl
theorem b9 : ((c.inPlace == P.inPlace f)) = true := by kernel_rfl
theorem b10 : ((c.unfollowed == P.unfollowed f)) = true := by kernel_rfl
theorem b11 : ((c.recurses == P.recurses f)) = true := by kernel_rfl
theorem b12 : ((c.named == P.varsNamed f)) = true := by kernel_rfl
theorem b13 : ((c.maps == (fn.params.toList ++ s.plain.varTypes P).any (P.mapsRec ·))) = true := by kernel_rfl
theorem b14 : ((c.ifaces == (fn.params.toList ++ s.plain.varTypes P).any (P.ifacesRec ·))) = true := by kernel_rfl
theorem b15 : ((c.mapsOut == P.mapsAmong fn.resultTypes.toList)) = true := by kernel_rfl
theorem b16 : ((c.loops == (fn.params.toList ++ s.plain.varTypes P).any (P.loopsFrom ·))) = true := by kernel_rfl
theorem b17 : ((c.wideKeys == (fn.params.toList ++ s.plain.varTypes P ++ fn.resultTypes.toList).any (P.wideKeysFrom ·))) = true := by kernel_rfl
theorem b18 : (s.vars.all (P.varReadable ·)) = true := by kernel_rfl
theorem b19 : (fn.resultTypes.all (fun t => P.readableRec t && decide (t < P.types.size))) = true := by kernel_rfl
theorem b20 : ((c.ifacesOut == fn.resultTypes.toList.any (P.ifacesRec ·))) = true := by kernel_rfl
theorem b21 : ((c.loopsOut == fn.resultTypes.toList.any (P.loopsFrom ·))) = true := by kernel_rfl
theorem b23 : (c.shortTexts.isNone) = true := by kernel_rfl
theorem b28 : ((c.kinds == (if c.domain.isEmpty then [] else fn.params.toList.map fun t => match P.underlying t with | some (.int k) => some k | _ => none))) = true := by kernel_rfl
theorem b29 : ((c.pinned == c.pinnedBy)) = true := by kernel_rfl
theorem b30 : ((c.veiled == (fn.params.toList ++ s.plain.varTypes P ++ fn.resultTypes.toList).any (P.veiledRec ·))) = true := by kernel_rfl
theorem b31 : (c.veiledFits P fn.params.toList (fn.params.toList ++ s.plain.varTypes P ++ fn.resultTypes.toList)) = true := by kernel_rfl
theorem facts : joinedFacts Tryz.pinned.checked.prog 7 Tryz.f7 (Rows.OpenSpec.upto Rows.fnFillApartSpec).bare Rows.fnFillApartUptoRow = true := by
  unfold joinedFacts
  exact (Gl.and2 (Gl.and2 (Gl.and2 (Gl.and2 (Gl.and2 (Gl.and2 (Gl.and2 (Gl.and2 (Gl.and2 (Gl.and2 (Gl.and2 (Gl.and2 (Gl.and2 (Gl.and2 (Gl.and2 (Gl.and2 (Gl.and2 (Gl.and2 (Gl.and2 (Gl.and2 (Gl.and2 (Gl.and2 (Gl.and2 (Gl.and2 (Gl.and2 (Gl.and2 (Gl.and2 (Gl.and2 (Gl.and2 (Gl.and2 (Gl.and2 b0 Gl.b1) Gl.b2) b3) b4) b5) Gl.b6) b7) Gl.b8) b9) b10) b11) b12) b13) b14) b15) b16) b17) b18) b19) b20) b21) Gl.b22) b23) Gl.b24) Gl.b25) Gl.b26) Gl.b27) b28) b29) b30) b31)
set_option maxRecDepth 100000 in
theorem lifted (os : Os) (started : os.Started) (H : Type) (enc : TypeId × Value → H) (F : Stop.Interp) :
    ReturnsInHanded {} Tryz.checked os 7 .any ((Rows.OpenSpec.upto Rows.fnFillApartSpec).pre6 enc Tryz.prog Tryz.f7 Rows.fnFillApartUptoRow.domain false) (((Rows.OpenSpec.upto Rows.fnFillApartSpec).at F).post enc Tryz.prog Tryz.f7 false true false false) := by
  refine returnsInHanded_of_cond (C := Tryz.checked) (s := Rows.OpenSpec.upto Rows.fnFillApartSpec) (k := Rows.uptoSmall) rfl own started (by kernel_rfl) Tryz.func7
    (OpenSpec.witness (enc := enc) (C := Tryz.checked) (s := Rows.OpenSpec.upto Rows.fnFillApartSpec) (k := Rows.uptoSmall) rfl false ⟨#[], #[.slice none 0 0, .agg #[.int .i64 0, .int .i64 0, .int .i64 0, .int .i64 0, .int .i64 0, .int .i64 0, .int .i64 0, .int .i64 0], .slice none 0 0], []⟩ 8 (by kernel_rfl) (by kernel_rfl) (by kernel_rfl)
      (x := ([.nil, .agg [.lit (.int .i64 0), .lit (.int .i64 0), .lit (.int .i64 0), .lit (.int .i64 0), .lit (.int .i64 0), .lit (.int .i64 0), .lit (.int .i64 0), .lit (.int .i64 0)], .nil], [], [])) (by kernel_rfl) rfl (by kernel_rfl)) ?_
  intro W base args ds gs before hval hW _ hk _
  exact contract H enc W base args ds gs before hval hW hk
theorem over : Rows.fnFillApartUptoRow.holds Tryz.pinned (Rows.OpenSpec.upto Rows.fnFillApartSpec) :=
  OpenClaim.holds_of_cond 7 Tryz.f7 rfl rfl rfl rfl rfl rfl rfl ⟨rfl, rfl, rfl, rfl, rfl⟩ rfl rfl rfl rfl rfl (by kernel_rfl) Tryz.func7 facts
    (of_decide_eq_true (by kernel_rfl)) (by unfold Func.isWrapper; first | (rw [if_pos (by decide +kernel)]; kernel_rfl) | (rw [if_neg (by decide +kernel)]; exact ⟨rfl, rfl⟩))
    (fun os started H enc _ F => lifted os started H enc F)
theorem proved : Rows.FnFillApartUptoSaid := over
#print axioms proved
end Go.Proofs.YtnineoajmgneiaaGreat.fnFillApart
namespace Go.Proofs.YtnineoajmgneiaaGreat
/-- The row, under a short name, for the claim. -/
theorem fnFillApartUpto_holds : Rows.FnFillApartUptoSaid := fnFillApart.proved
end Go.Proofs.YtnineoajmgneiaaGreat
