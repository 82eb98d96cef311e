-- made by stubprint.py
import Derived.Test.YtimakagmhikhfaaMx0
import Derived.Test.YtimakagmhikhfaaMx1
namespace Go.Proofs.Ytimakagmhikhfaa.M
open Go.RowKit Go.Proofs.YtimakagmhikhfaaW.PrintWords Go.Proofs.YtimakagmhikhfaaW.PrintLast Go.Proofs.YtimakagmhikhfaaW.PrintMore
attribute [local go_sem] max2_int min2_int max_two min_two max_three min_three max_four min_four   -- for this text's walks alone
set_option linter.unusedVariables false
set_option linter.unusedSimpArgs false

/-! ### laws_FnMarkRun: function 7 -/
def laws_FnMarkRun.l0 : Nat → List (S34) → List (S34) → Int → Int → Option (Bool)
  | 0, _, _, _, _ => none
  | k + 1, x3, x5, x26, x27 => if x27 < x26 then (if 0 ≤ x27 then (if x27 < (x5.length : Int) then (if x27 < (x3.length : Int) then (if ((rd_T34 x5 x27).f0) = ((rd_T34 x3 x27).f0) then (if ((rd_T34 x5 x27).f1) = ((rd_T34 x3 x27).f1) then (laws_FnMarkRun.l0 k x3 x5 x26 (wrap64 (x27 + 1))) else (some false)) else (some false)) else (none)) else (none)) else (none)) else ((laws_marksWork.f).bind fun t300 => (some t300))
def laws_FnMarkRun.f (k : Nat) (l0 : List (S31)) : Option (Bool) := (laws_zzFits1.f k l0).bind fun t287 => (if t287 = true then ((spec_Marks.f l0).bind fun bt288 => (if bt288.2 = true then ((impl_RunMarks.f l0).bind fun t293 => (if (t293.length : Int) = (bt288.1.length : Int) then (laws_FnMarkRun.l0 k bt288.1 t293 (t293.length : Int) 0) else (some false))) else ((laws_marksWork.f).bind fun t292 => (some t292)))) else (some true))
theorem laws_FnMarkRun.mono_l : ∀ k, (∀ y0 y1 y2 y3, LeO (laws_FnMarkRun.l0 k y0 y1 y2 y3) (laws_FnMarkRun.l0 (k + 1) y0 y1 y2 y3))
  | 0 => fun _ _ _ _ r h => by simp [laws_FnMarkRun.l0] at h
  | k + 1 => by
    have ih0 := laws_FnMarkRun.mono_l k
    · intro y0 y1 y2 y3
      unfold laws_FnMarkRun.l0
      repeat' first
      | (with_reducible exact ih0 _ _ _ _)
      | (with_reducible exact laws_zzFits1.mono _ _)
      | (with_reducible exact LeO.refl _)
      | (with_reducible exact LeO.none _)
      | (with_reducible refine LeO.ite ?_ ?_)
      | (with_reducible refine LeO.bind ?_ (fun _ => ?_))
      | exact ih0 _ _ _ _
      | exact laws_zzFits1.mono _ _
      | exact LeO.none _
      | refine LeO.ite ?_ ?_
      | refine LeO.bind ?_ (fun _ => ?_)
theorem laws_FnMarkRun.mono : ∀ a0 k, LeO (laws_FnMarkRun.f k a0) (laws_FnMarkRun.f (k + 1) a0) := by
  intro a0 k
  have ih0 := laws_FnMarkRun.mono_l k
  unfold laws_FnMarkRun.f
  repeat' first
      | (with_reducible exact ih0 _ _ _ _)
      | (with_reducible exact laws_zzFits1.mono _ _)
      | (with_reducible exact LeO.refl _)
      | (with_reducible exact LeO.none _)
      | (with_reducible refine LeO.ite ?_ ?_)
      | (with_reducible refine LeO.bind ?_ (fun _ => ?_))
      | exact ih0 _ _ _ _
      | exact laws_zzFits1.mono _ _
      | exact LeO.none _
      | refine LeO.ite ?_ ?_
      | refine LeO.bind ?_ (fun _ => ?_)
set_option maxHeartbeats 8000000 in
set_option maxRecDepth 100000 in
theorem laws_FnMarkRun.calls (k : Nat) (A0 : Option Addr) (c0 : Nat) (l0 : List (S31)) (r : Bool) (w : World) (hr0 : Kd.C k31 w A0 l0.length l0) (hc0 : l0.length ≤ c0) (h : laws_FnMarkRun.f k l0 = some r) :
    Calls Try.prog 7 #[.slice A0 l0.length c0] w fun e w' => e = .returned (.bool r) ∧ Below w.heap.size w w' := by
  have HR0 := Aside0.mk hr0
  have HC0 := Aside0.mk hc0
  clear hr0 hc0
  have HB := Aside0.mk (Below.refl w.heap.size w)
  have H : ((laws_zzFits1.f k l0).bind fun t287 => (if t287 = true then ((spec_Marks.f l0).bind fun bt288 => (if bt288.2 = true then ((impl_RunMarks.f l0).bind fun t293 => (if (t293.length : Int) = (bt288.1.length : Int) then (laws_FnMarkRun.l0 k bt288.1 t293 (t293.length : Int) 0) else (some false))) else ((laws_marksWork.f).bind fun t292 => (some t292)))) else (some true))) = some r := h
  clear h
  replace H := Option.bind_eq_some_iff.mp H
  obtain ⟨t287, A20, H⟩ := H
  replace H : (if t287 = true then ((spec_Marks.f l0).bind fun bt288 => (if bt288.2 = true then ((impl_RunMarks.f l0).bind fun t293 => (if (t293.length : Int) = (bt288.1.length : Int) then (laws_FnMarkRun.l0 k bt288.1 t293 (t293.length : Int) 0) else (some false))) else ((laws_marksWork.f).bind fun t292 => (some t292)))) else (some true)) = some r := H
  have A2 := Aside0.mk A20
  clear A20
  by_cases c3 : t287 = true
  · subst c3
    have H1 : ((spec_Marks.f l0).bind fun bt288 => (if bt288.2 = true then ((impl_RunMarks.f l0).bind fun t293 => (if (t293.length : Int) = (bt288.1.length : Int) then (laws_FnMarkRun.l0 k bt288.1 t293 (t293.length : Int) 0) else (some false))) else ((laws_marksWork.f).bind fun t292 => (some t292)))) = some r := by rw [if_pos rfl] at H; exact H
    clear H
    have H := H1
    clear H1
    replace H := Option.bind_eq_some_iff.mp H
    obtain ⟨⟨t288, t289⟩, A40, H⟩ := H
    replace H : (if t289 = true then ((impl_RunMarks.f l0).bind fun t293 => (if (t293.length : Int) = (t288.length : Int) then (laws_FnMarkRun.l0 k t288 t293 (t293.length : Int) 0) else (some false))) else ((laws_marksWork.f).bind fun t292 => (some t292))) = some r := H
    have A4 := Aside0.mk A40
    clear A40
    by_cases c5 : t289 = true
    · subst c5
      have H1 : ((impl_RunMarks.f l0).bind fun t293 => (if (t293.length : Int) = (t288.length : Int) then (laws_FnMarkRun.l0 k t288 t293 (t293.length : Int) 0) else (some false))) = some r := by rw [if_pos rfl] at H; exact H
      clear H
      have H := H1
      clear H1
      replace H := Option.bind_eq_some_iff.mp H
      obtain ⟨t293, A60, H⟩ := H
      replace H : (if (t293.length : Int) = (t288.length : Int) then (laws_FnMarkRun.l0 k t288 t293 (t293.length : Int) 0) else (some false)) = some r := H
      have A6 := Aside0.mk A60
      clear A60
      by_cases c7 : (t293.length : Int) = (t288.length : Int)
      · rw [if_pos c7] at H
        have c7b0 : ((t293.length : Int) == (t288.length : Int)) = true := beq_iff_eq.mpr c7
        have c7b1 : ((t293.length : Int) != (t288.length : Int)) = false := bne_eq_false_iff_eq.mpr c7
        have c7b2 : (t293.length == t288.length) = true := by first | simpa using c7 | (simp at c7 ⊢; omega)
        clear c7
        have H' := Aside0.mk H
        clear H
        go_enter Try.func7, Try.ntmps7
        go_wp2_with (first | (go_at_call 11; (with_reducible refine (laws_zzFits1.calls k _ _ l0 true _ ?side1 ?side2 A2.out).mono ?_); (case side1 => repeat (first | exact HR0.out | (with_reducible refine Kd.C_alloc ?_ _) | (with_reducible refine Kd.C_drewN ?_ _) | (with_reducible refine Kd.C_drew ?_))); (case side2 => exact HC0.out); rintro e w8 ⟨rfl, hb⟩; have n0_ := Aside0.mk (below_step (by repeat (first | (with_reducible first | exact HB.out | apply below_alloc | apply pw_below_drewN | apply below_drew1) | exact HB.out)) hb); clear HB; have HB := n0_; clear n0_; (try clear hb); (try clear hb2); (try clear hk); (try clear hi)) | (go_at_call 12; (with_reducible refine (spec_Marks.calls _ _ l0 t288 true _ ?side1 ?side2 A4.out).mono ?_); (case side1 => repeat (first | exact (Kd.C_below HR0.out HB.out) | (with_reducible refine Kd.C_alloc ?_ _) | (with_reducible refine Kd.C_drewN ?_ _) | (with_reducible refine Kd.C_drew ?_))); (case side2 => exact HC0.out); rintro e w9 ⟨v290, rfl, ho0, hb⟩; have n0_ := Aside0.mk (Kd.S_lower ho0 (below_size (by repeat (first | (with_reducible first | exact HB.out | apply below_alloc | apply pw_below_drewN | apply below_drew1) | exact HB.out)))); have n1_ := Aside0.mk (below_step (by repeat (first | (with_reducible first | exact HB.out | apply below_alloc | apply pw_below_drewN | apply below_drew1) | exact HB.out)) hb); clear HB; have HO291 := n0_; have HB := n1_; clear n0_ n1_; (try clear hb); (try clear hb2); (try clear hk); (try clear hi); (try clear ho0)) | (go_at_call 14; (with_reducible refine (impl_RunMarks.calls _ _ l0 t293 _ ?side1 ?side2 A6.out).mono ?_); (case side1 => repeat (first | exact (Kd.C_below HR0.out HB.out) | (with_reducible refine Kd.C_alloc ?_ _) | (with_reducible refine Kd.C_drewN ?_ _) | (with_reducible refine Kd.C_drew ?_))); (case side2 => exact HC0.out); rintro e w10 ⟨v294, rfl, ho0, hb⟩; have n0_ := Aside0.mk (Kd.S_elder' (by (with_reducible repeat (first | apply Kd.S_alloc | apply Kd.S_drewN | apply Kd.S_drew)); exact HO291.out) (Kd.S_base ho0) hb); have n1_ := Aside0.mk (Kd.S_lower (Kd.S_new' ho0 (Kd.S_lt (by (with_reducible repeat (first | apply Kd.S_alloc | apply Kd.S_drewN | apply Kd.S_drew)); exact HO291.out))) (below_size (by repeat (first | (with_reducible first | exact HB.out | apply below_alloc | apply pw_below_drewN | apply below_drew1) | exact HB.out)))); have n2_ := Aside0.mk (below_step (by repeat (first | (with_reducible first | exact HB.out | apply below_alloc | apply pw_below_drewN | apply below_drew1) | exact HB.out)) hb); clear HO291; clear HB; have HO291 := n0_; have HO295 := n1_; have HB := n2_; clear n0_ n1_ n2_; (try clear hb); (try clear hb2); (try clear hk); (try clear hi); (try clear ho0); obtain ⟨Ao11, co11, eo11⟩ := Kd.S_slice HO295.out; subst eo11; obtain ⟨Ao12, co12, eo12⟩ := Kd.S_slice HO291.out; subst eo12))
        repeat (go_quiet (first | (go_at_call 11; (with_reducible refine (laws_zzFits1.calls k _ _ l0 true _ ?side1 ?side2 A2.out).mono ?_); (case side1 => repeat (first | exact HR0.out | (with_reducible refine Kd.C_alloc ?_ _) | (with_reducible refine Kd.C_drewN ?_ _) | (with_reducible refine Kd.C_drew ?_))); (case side2 => exact HC0.out); rintro e w8 ⟨rfl, hb⟩; have n0_ := Aside0.mk (below_step (by repeat (first | (with_reducible first | exact HB.out | apply below_alloc | apply pw_below_drewN | apply below_drew1) | exact HB.out)) hb); clear HB; have HB := n0_; clear n0_; (try clear hb); (try clear hb2); (try clear hk); (try clear hi)) | (go_at_call 12; (with_reducible refine (spec_Marks.calls _ _ l0 t288 true _ ?side1 ?side2 A4.out).mono ?_); (case side1 => repeat (first | exact (Kd.C_below HR0.out HB.out) | (with_reducible refine Kd.C_alloc ?_ _) | (with_reducible refine Kd.C_drewN ?_ _) | (with_reducible refine Kd.C_drew ?_))); (case side2 => exact HC0.out); rintro e w9 ⟨v290, rfl, ho0, hb⟩; have n0_ := Aside0.mk (Kd.S_lower ho0 (below_size (by repeat (first | (with_reducible first | exact HB.out | apply below_alloc | apply pw_below_drewN | apply below_drew1) | exact HB.out)))); have n1_ := Aside0.mk (below_step (by repeat (first | (with_reducible first | exact HB.out | apply below_alloc | apply pw_below_drewN | apply below_drew1) | exact HB.out)) hb); clear HB; have HO291 := n0_; have HB := n1_; clear n0_ n1_; (try clear hb); (try clear hb2); (try clear hk); (try clear hi); (try clear ho0)) | (go_at_call 14; (with_reducible refine (impl_RunMarks.calls _ _ l0 t293 _ ?side1 ?side2 A6.out).mono ?_); (case side1 => repeat (first | exact (Kd.C_below HR0.out HB.out) | (with_reducible refine Kd.C_alloc ?_ _) | (with_reducible refine Kd.C_drewN ?_ _) | (with_reducible refine Kd.C_drew ?_))); (case side2 => exact HC0.out); rintro e w10 ⟨v294, rfl, ho0, hb⟩; have n0_ := Aside0.mk (Kd.S_elder' (by (with_reducible repeat (first | apply Kd.S_alloc | apply Kd.S_drewN | apply Kd.S_drew)); exact HO291.out) (Kd.S_base ho0) hb); have n1_ := Aside0.mk (Kd.S_lower (Kd.S_new' ho0 (Kd.S_lt (by (with_reducible repeat (first | apply Kd.S_alloc | apply Kd.S_drewN | apply Kd.S_drew)); exact HO291.out))) (below_size (by repeat (first | (with_reducible first | exact HB.out | apply below_alloc | apply pw_below_drewN | apply below_drew1) | exact HB.out)))); have n2_ := Aside0.mk (below_step (by repeat (first | (with_reducible first | exact HB.out | apply below_alloc | apply pw_below_drewN | apply below_drew1) | exact HB.out)) hb); clear HO291; clear HB; have HO291 := n0_; have HO295 := n1_; have HB := n2_; clear n0_ n1_ n2_; (try clear hb); (try clear hb2); (try clear hk); (try clear hi); (try clear ho0); obtain ⟨Ao11, co11, eo11⟩ := Kd.S_slice HO295.out; subst eo11; obtain ⟨Ao12, co12, eo12⟩ := Kd.S_slice HO291.out; subst eo12)); try go_wp2_with (first | (go_at_call 11; (with_reducible refine (laws_zzFits1.calls k _ _ l0 true _ ?side1 ?side2 A2.out).mono ?_); (case side1 => repeat (first | exact HR0.out | (with_reducible refine Kd.C_alloc ?_ _) | (with_reducible refine Kd.C_drewN ?_ _) | (with_reducible refine Kd.C_drew ?_))); (case side2 => exact HC0.out); rintro e w8 ⟨rfl, hb⟩; have n0_ := Aside0.mk (below_step (by repeat (first | (with_reducible first | exact HB.out | apply below_alloc | apply pw_below_drewN | apply below_drew1) | exact HB.out)) hb); clear HB; have HB := n0_; clear n0_; (try clear hb); (try clear hb2); (try clear hk); (try clear hi)) | (go_at_call 12; (with_reducible refine (spec_Marks.calls _ _ l0 t288 true _ ?side1 ?side2 A4.out).mono ?_); (case side1 => repeat (first | exact (Kd.C_below HR0.out HB.out) | (with_reducible refine Kd.C_alloc ?_ _) | (with_reducible refine Kd.C_drewN ?_ _) | (with_reducible refine Kd.C_drew ?_))); (case side2 => exact HC0.out); rintro e w9 ⟨v290, rfl, ho0, hb⟩; have n0_ := Aside0.mk (Kd.S_lower ho0 (below_size (by repeat (first | (with_reducible first | exact HB.out | apply below_alloc | apply pw_below_drewN | apply below_drew1) | exact HB.out)))); have n1_ := Aside0.mk (below_step (by repeat (first | (with_reducible first | exact HB.out | apply below_alloc | apply pw_below_drewN | apply below_drew1) | exact HB.out)) hb); clear HB; have HO291 := n0_; have HB := n1_; clear n0_ n1_; (try clear hb); (try clear hb2); (try clear hk); (try clear hi); (try clear ho0)) | (go_at_call 14; (with_reducible refine (impl_RunMarks.calls _ _ l0 t293 _ ?side1 ?side2 A6.out).mono ?_); (case side1 => repeat (first | exact (Kd.C_below HR0.out HB.out) | (with_reducible refine Kd.C_alloc ?_ _) | (with_reducible refine Kd.C_drewN ?_ _) | (with_reducible refine Kd.C_drew ?_))); (case side2 => exact HC0.out); rintro e w10 ⟨v294, rfl, ho0, hb⟩; have n0_ := Aside0.mk (Kd.S_elder' (by (with_reducible repeat (first | apply Kd.S_alloc | apply Kd.S_drewN | apply Kd.S_drew)); exact HO291.out) (Kd.S_base ho0) hb); have n1_ := Aside0.mk (Kd.S_lower (Kd.S_new' ho0 (Kd.S_lt (by (with_reducible repeat (first | apply Kd.S_alloc | apply Kd.S_drewN | apply Kd.S_drew)); exact HO291.out))) (below_size (by repeat (first | (with_reducible first | exact HB.out | apply below_alloc | apply pw_below_drewN | apply below_drew1) | exact HB.out)))); have n2_ := Aside0.mk (below_step (by repeat (first | (with_reducible first | exact HB.out | apply below_alloc | apply pw_below_drewN | apply below_drew1) | exact HB.out)) hb); clear HO291; clear HB; have HO291 := n0_; have HO295 := n1_; have HB := n2_; clear n0_ n1_ n2_; (try clear hb); (try clear hb2); (try clear hk); (try clear hi); (try clear ho0); obtain ⟨Ao11, co11, eo11⟩ := Kd.S_slice HO295.out; subst eo11; obtain ⟨Ao12, co12, eo12⟩ := Kd.S_slice HO291.out; subst eo12)))
        go_loopg [27] k (fun kq v27 w' => ∃ (x27_1 : Int), v27 = .int .i64 x27_1 ∧ Aside0 (laws_FnMarkRun.l0 kq t288 t293 (t293.length : Int) x27_1 = some r) ∧ Aside0 (kq ≤ k) ∧ Aside0 (Kd.S k34 34 w' w.heap.size (fun k_ => some k_ ≠ ((.slice Ao11 t293.length co11) : Value).ownBlock) (.slice Ao12 t288.length co12) t288) ∧ Aside0 (Kd.S k34 34 w' w.heap.size (fun k_ => some k_ ≠ ((.slice Ao12 t288.length co12) : Value).ownBlock) (.slice Ao11 t293.length co11) t293) ∧ Aside0 (Below w.heap.size w w'))
        case atStart => exact ⟨(0), (by first | rfl | (simp; done) | (simp [*]; done)), H', ⟨Nat.le_refl _⟩, ⟨by (with_reducible repeat (first | apply Kd.S_alloc | apply Kd.S_drewN | apply Kd.S_drew)); exact Kd.S_mono HO291.out (fun _ hk => hk.2)⟩, ⟨by (with_reducible repeat (first | apply Kd.S_alloc | apply Kd.S_drewN | apply Kd.S_drew)); exact Kd.S_mono HO295.out (fun _ hk => hk.2)⟩, ⟨by repeat (first | (with_reducible first | exact HB.out | apply below_alloc | apply pw_below_drewN | apply below_drew1) | exact HB.out)⟩⟩
        case round =>
          clear H'
          try clear p2
          try clear c3
          try clear c5
          try clear c7
          try clear c7b0
          try clear c7b1
          try clear c7b2
          obtain ⟨x27_1, rfl, HA, HK1, HO_3, HO_5, HB⟩ := hrel
          cases gk with
          | zero => exact absurd HA.out (by simp [laws_FnMarkRun.l0])
          | succ k1 =>
            have H := HA.out
            clear HA
            simp only [laws_FnMarkRun.l0] at H
            by_cases c13 : x27_1 < (t293.length : Int)
            · rw [if_pos c13] at H
              have c13b0 : decide (x27_1 < (t293.length : Int)) = true := decide_eq_true c13
              clear c13
              by_cases c14 : 0 ≤ x27_1
              · rw [if_pos c14] at H
                have c14b0 : decide (0 ≤ x27_1) = true := decide_eq_true c14
                clear c14
                by_cases c15 : x27_1 < (t293.length : Int)
                · rw [if_pos c15] at H
                  have c15b0 : decide (x27_1 < (t293.length : Int)) = true := decide_eq_true c15
                  clear c15
                  by_cases c16 : x27_1 < (t288.length : Int)
                  · rw [if_pos c16] at H
                    have c16b0 : decide (x27_1 < (t288.length : Int)) = true := decide_eq_true c16
                    clear c16
                    by_cases c17 : ((rd_T34 t293 x27_1).f0) = ((rd_T34 t288 x27_1).f0)
                    · rw [if_pos c17] at H
                      have c17b0 : (((rd_T34 t293 x27_1).f0) == ((rd_T34 t288 x27_1).f0)) = true := beq_iff_eq.mpr c17
                      have c17b1 : (((rd_T34 t293 x27_1).f0) != ((rd_T34 t288 x27_1).f0)) = false := bne_eq_false_iff_eq.mpr c17
                      clear c17
                      by_cases c18 : ((rd_T34 t293 x27_1).f1) = ((rd_T34 t288 x27_1).f1)
                      · rw [if_pos c18] at H
                        have c18b0 : (((rd_T34 t293 x27_1).f1) == ((rd_T34 t288 x27_1).f1)) = true := beq_iff_eq.mpr c18
                        have c18b1 : (((rd_T34 t293 x27_1).f1) != ((rd_T34 t288 x27_1).f1)) = false := bne_eq_false_iff_eq.mpr c18
                        clear c18
                        have H' := Aside0.mk H
                        clear H
                        have p296 : 0 ≤ (x27_1 : Int) := of_decide_eq_true (by first | (with_reducible assumption) | assumption)
                        have q296 : x27_1 < (t293.length : Int) := of_decide_eq_true (by first | (with_reducible assumption) | assumption)
                        obtain ⟨ad296, A296_4, c296_4, e296, hx296_0, hx296_1, hx296_2, hx296_3, hx296_4, hl296_4, hi296_4⟩ := at_T34 (Kd.S_reads' HO_5.out).2.2 x27_1 p296 q296
                        cases e296
                        obtain ⟨ce296, hce296, hMe296, hcc296⟩ := Kd.S_get HO_5.out z34 x27_1 p296 (by first | exact q296 | exact of_decide_eq_true (by first | (with_reducible assumption) | assumption) | (have e_ := (Kd.S_reads' HO_5.out).1; omega))
                        obtain ⟨ve296_4, rfl, ge296_4⟩ := k34_openM hMe296
                        have hv296_4 := hcc296 4 _ rfl
                        rw [add_field _ _ 4 (by omega)] at hv296_4
                        replace hv296_4 := Option.some.inj (hv296_4.symm.trans hx296_4)
                        rw [hv296_4] at ge296_4
                        have HL296_4 := Aside0.mk (show Kd.R Kd.bool 4 _ _ _ _ ((rd_T34 t293 x27_1).f4) from ge296_4)
                        clear hv296_4 ge296_4
                        clear hcc296 hce296
                        have HR296_4 := Aside0.mk hi296_4
                        have HC296_4 := Aside0.mk hl296_4
                        clear hi296_4 hl296_4
                        replace p296 := eq_true p296
                        replace q296 := eq_true q296
                        have p297 : 0 ≤ (x27_1 : Int) := of_decide_eq_true (by first | (with_reducible assumption) | assumption)
                        have q297 : x27_1 < (t288.length : Int) := of_decide_eq_true (by first | (with_reducible assumption) | assumption)
                        obtain ⟨ad297, A297_4, c297_4, e297, hx297_0, hx297_1, hx297_2, hx297_3, hx297_4, hl297_4, hi297_4⟩ := at_T34 (Kd.S_reads' HO_3.out).2.2 x27_1 p297 q297
                        cases e297
                        obtain ⟨ce297, hce297, hMe297, hcc297⟩ := Kd.S_get HO_3.out z34 x27_1 p297 (by first | exact q297 | exact of_decide_eq_true (by first | (with_reducible assumption) | assumption) | (have e_ := (Kd.S_reads' HO_3.out).1; omega))
                        obtain ⟨ve297_4, rfl, ge297_4⟩ := k34_openM hMe297
                        have hv297_4 := hcc297 4 _ rfl
                        rw [add_field _ _ 4 (by omega)] at hv297_4
                        replace hv297_4 := Option.some.inj (hv297_4.symm.trans hx297_4)
                        rw [hv297_4] at ge297_4
                        have HL297_4 := Aside0.mk (show Kd.R Kd.bool 4 _ _ _ _ ((rd_T34 t288 x27_1).f4) from ge297_4)
                        clear hv297_4 ge297_4
                        clear hcc297 hce297
                        have HR297_4 := Aside0.mk hi297_4
                        have HC297_4 := Aside0.mk hl297_4
                        clear hi297_4 hl297_4
                        replace p297 := eq_true p297
                        replace q297 := eq_true q297
                        have p298 : 0 ≤ (x27_1 : Int) := of_decide_eq_true (by first | (with_reducible assumption) | assumption)
                        have q298 : x27_1 < (t293.length : Int) := of_decide_eq_true (by first | (with_reducible assumption) | assumption)
                        obtain ⟨ad298, A298_4, c298_4, e298, hx298_0, hx298_1, hx298_2, hx298_3, hx298_4, hl298_4, hi298_4⟩ := at_T34 (Kd.S_reads' HO_5.out).2.2 x27_1 p298 q298
                        obtain rfl : ad296 = ad298 := (by injection e298)
                        obtain ⟨ce298, hce298, hMe298, hcc298⟩ := Kd.S_get HO_5.out z34 x27_1 p298 (by first | exact q298 | exact of_decide_eq_true (by first | (with_reducible assumption) | assumption) | (have e_ := (Kd.S_reads' HO_5.out).1; omega))
                        obtain ⟨ve298_4, rfl, ge298_4⟩ := k34_openM hMe298
                        have hv298_4 := hcc298 4 _ rfl
                        rw [add_field _ _ 4 (by omega)] at hv298_4
                        replace hv298_4 := Option.some.inj (hv298_4.symm.trans hx298_4)
                        rw [hv298_4] at ge298_4
                        have HL298_4 := Aside0.mk (show Kd.R Kd.bool 4 _ _ _ _ ((rd_T34 t293 x27_1).f4) from ge298_4)
                        clear hv298_4 ge298_4
                        clear hcc298 hce298
                        have HR298_4 := Aside0.mk hi298_4
                        have HC298_4 := Aside0.mk hl298_4
                        clear hi298_4 hl298_4
                        replace p298 := eq_true p298
                        replace q298 := eq_true q298
                        have ea_ := Option.some.inj (hx296_4.symm.trans hx298_4)
                        injection ea_ with ea_ en_ ec_
                        subst ea_
                        subst ec_
                        clear en_
                        have p299 : 0 ≤ (x27_1 : Int) := of_decide_eq_true (by first | (with_reducible assumption) | assumption)
                        have q299 : x27_1 < (t288.length : Int) := of_decide_eq_true (by first | (with_reducible assumption) | assumption)
                        obtain ⟨ad299, A299_4, c299_4, e299, hx299_0, hx299_1, hx299_2, hx299_3, hx299_4, hl299_4, hi299_4⟩ := at_T34 (Kd.S_reads' HO_3.out).2.2 x27_1 p299 q299
                        obtain rfl : ad297 = ad299 := (by injection e299)
                        obtain ⟨ce299, hce299, hMe299, hcc299⟩ := Kd.S_get HO_3.out z34 x27_1 p299 (by first | exact q299 | exact of_decide_eq_true (by first | (with_reducible assumption) | assumption) | (have e_ := (Kd.S_reads' HO_3.out).1; omega))
                        obtain ⟨ve299_4, rfl, ge299_4⟩ := k34_openM hMe299
                        have hv299_4 := hcc299 4 _ rfl
                        rw [add_field _ _ 4 (by omega)] at hv299_4
                        replace hv299_4 := Option.some.inj (hv299_4.symm.trans hx299_4)
                        rw [hv299_4] at ge299_4
                        have HL299_4 := Aside0.mk (show Kd.R Kd.bool 4 _ _ _ _ ((rd_T34 t288 x27_1).f4) from ge299_4)
                        clear hv299_4 ge299_4
                        clear hcc299 hce299
                        have HR299_4 := Aside0.mk hi299_4
                        have HC299_4 := Aside0.mk hl299_4
                        clear hi299_4 hl299_4
                        replace p299 := eq_true p299
                        replace q299 := eq_true q299
                        have ea_ := Option.some.inj (hx297_4.symm.trans hx299_4)
                        injection ea_ with ea_ en_ ec_
                        subst ea_
                        subst ec_
                        clear en_
                        go_wp2
                        repeat (go_quiet (fail); try go_wp2)
                        go_roundg k1
                        case measure => have := HK1.out; omega
                        case rel => exact ⟨(wrap64 (x27_1 + 1)), (by first | rfl | (simp; done) | (simp [*]; done)), H', ⟨by have := HK1.out; omega⟩, ⟨by (with_reducible repeat (first | apply Kd.S_alloc | apply Kd.S_drewN | apply Kd.S_drew)); exact HO_3.out⟩, ⟨by (with_reducible repeat (first | apply Kd.S_alloc | apply Kd.S_drewN | apply Kd.S_drew)); exact HO_5.out⟩, ⟨by repeat (first | (with_reducible first | exact HB.out | apply below_alloc | apply pw_below_drewN | apply below_drew1) | exact HB.out)⟩⟩
                      · rw [if_neg c18] at H
                        have c18b0 : (((rd_T34 t293 x27_1).f1) == ((rd_T34 t288 x27_1).f1)) = false := beq_eq_false_iff_ne.mpr c18
                        have c18b1 : (((rd_T34 t293 x27_1).f1) != ((rd_T34 t288 x27_1).f1)) = true := bne_iff_ne.mpr c18
                        obtain rfl := Option.some.inj H
                        have p296 : 0 ≤ (x27_1 : Int) := of_decide_eq_true (by first | (with_reducible assumption) | assumption)
                        have q296 : x27_1 < (t293.length : Int) := of_decide_eq_true (by first | (with_reducible assumption) | assumption)
                        obtain ⟨ad296, A296_4, c296_4, e296, hx296_0, hx296_1, hx296_2, hx296_3, hx296_4, hl296_4, hi296_4⟩ := at_T34 (Kd.S_reads' HO_5.out).2.2 x27_1 p296 q296
                        cases e296
                        obtain ⟨ce296, hce296, hMe296, hcc296⟩ := Kd.S_get HO_5.out z34 x27_1 p296 (by first | exact q296 | exact of_decide_eq_true (by first | (with_reducible assumption) | assumption) | (have e_ := (Kd.S_reads' HO_5.out).1; omega))
                        obtain ⟨ve296_4, rfl, ge296_4⟩ := k34_openM hMe296
                        have hv296_4 := hcc296 4 _ rfl
                        rw [add_field _ _ 4 (by omega)] at hv296_4
                        replace hv296_4 := Option.some.inj (hv296_4.symm.trans hx296_4)
                        rw [hv296_4] at ge296_4
                        have HL296_4 := Aside0.mk (show Kd.R Kd.bool 4 _ _ _ _ ((rd_T34 t293 x27_1).f4) from ge296_4)
                        clear hv296_4 ge296_4
                        clear hcc296 hce296
                        have HR296_4 := Aside0.mk hi296_4
                        have HC296_4 := Aside0.mk hl296_4
                        clear hi296_4 hl296_4
                        replace p296 := eq_true p296
                        replace q296 := eq_true q296
                        have p297 : 0 ≤ (x27_1 : Int) := of_decide_eq_true (by first | (with_reducible assumption) | assumption)
                        have q297 : x27_1 < (t288.length : Int) := of_decide_eq_true (by first | (with_reducible assumption) | assumption)
                        obtain ⟨ad297, A297_4, c297_4, e297, hx297_0, hx297_1, hx297_2, hx297_3, hx297_4, hl297_4, hi297_4⟩ := at_T34 (Kd.S_reads' HO_3.out).2.2 x27_1 p297 q297
                        cases e297
                        obtain ⟨ce297, hce297, hMe297, hcc297⟩ := Kd.S_get HO_3.out z34 x27_1 p297 (by first | exact q297 | exact of_decide_eq_true (by first | (with_reducible assumption) | assumption) | (have e_ := (Kd.S_reads' HO_3.out).1; omega))
                        obtain ⟨ve297_4, rfl, ge297_4⟩ := k34_openM hMe297
                        have hv297_4 := hcc297 4 _ rfl
                        rw [add_field _ _ 4 (by omega)] at hv297_4
                        replace hv297_4 := Option.some.inj (hv297_4.symm.trans hx297_4)
                        rw [hv297_4] at ge297_4
                        have HL297_4 := Aside0.mk (show Kd.R Kd.bool 4 _ _ _ _ ((rd_T34 t288 x27_1).f4) from ge297_4)
                        clear hv297_4 ge297_4
                        clear hcc297 hce297
                        have HR297_4 := Aside0.mk hi297_4
                        have HC297_4 := Aside0.mk hl297_4
                        clear hi297_4 hl297_4
                        replace p297 := eq_true p297
                        replace q297 := eq_true q297
                        have p298 : 0 ≤ (x27_1 : Int) := of_decide_eq_true (by first | (with_reducible assumption) | assumption)
                        have q298 : x27_1 < (t293.length : Int) := of_decide_eq_true (by first | (with_reducible assumption) | assumption)
                        obtain ⟨ad298, A298_4, c298_4, e298, hx298_0, hx298_1, hx298_2, hx298_3, hx298_4, hl298_4, hi298_4⟩ := at_T34 (Kd.S_reads' HO_5.out).2.2 x27_1 p298 q298
                        obtain rfl : ad296 = ad298 := (by injection e298)
                        obtain ⟨ce298, hce298, hMe298, hcc298⟩ := Kd.S_get HO_5.out z34 x27_1 p298 (by first | exact q298 | exact of_decide_eq_true (by first | (with_reducible assumption) | assumption) | (have e_ := (Kd.S_reads' HO_5.out).1; omega))
                        obtain ⟨ve298_4, rfl, ge298_4⟩ := k34_openM hMe298
                        have hv298_4 := hcc298 4 _ rfl
                        rw [add_field _ _ 4 (by omega)] at hv298_4
                        replace hv298_4 := Option.some.inj (hv298_4.symm.trans hx298_4)
                        rw [hv298_4] at ge298_4
                        have HL298_4 := Aside0.mk (show Kd.R Kd.bool 4 _ _ _ _ ((rd_T34 t293 x27_1).f4) from ge298_4)
                        clear hv298_4 ge298_4
                        clear hcc298 hce298
                        have HR298_4 := Aside0.mk hi298_4
                        have HC298_4 := Aside0.mk hl298_4
                        clear hi298_4 hl298_4
                        replace p298 := eq_true p298
                        replace q298 := eq_true q298
                        have ea_ := Option.some.inj (hx296_4.symm.trans hx298_4)
                        injection ea_ with ea_ en_ ec_
                        subst ea_
                        subst ec_
                        clear en_
                        have p299 : 0 ≤ (x27_1 : Int) := of_decide_eq_true (by first | (with_reducible assumption) | assumption)
                        have q299 : x27_1 < (t288.length : Int) := of_decide_eq_true (by first | (with_reducible assumption) | assumption)
                        obtain ⟨ad299, A299_4, c299_4, e299, hx299_0, hx299_1, hx299_2, hx299_3, hx299_4, hl299_4, hi299_4⟩ := at_T34 (Kd.S_reads' HO_3.out).2.2 x27_1 p299 q299
                        obtain rfl : ad297 = ad299 := (by injection e299)
                        obtain ⟨ce299, hce299, hMe299, hcc299⟩ := Kd.S_get HO_3.out z34 x27_1 p299 (by first | exact q299 | exact of_decide_eq_true (by first | (with_reducible assumption) | assumption) | (have e_ := (Kd.S_reads' HO_3.out).1; omega))
                        obtain ⟨ve299_4, rfl, ge299_4⟩ := k34_openM hMe299
                        have hv299_4 := hcc299 4 _ rfl
                        rw [add_field _ _ 4 (by omega)] at hv299_4
                        replace hv299_4 := Option.some.inj (hv299_4.symm.trans hx299_4)
                        rw [hv299_4] at ge299_4
                        have HL299_4 := Aside0.mk (show Kd.R Kd.bool 4 _ _ _ _ ((rd_T34 t288 x27_1).f4) from ge299_4)
                        clear hv299_4 ge299_4
                        clear hcc299 hce299
                        have HR299_4 := Aside0.mk hi299_4
                        have HC299_4 := Aside0.mk hl299_4
                        clear hi299_4 hl299_4
                        replace p299 := eq_true p299
                        replace q299 := eq_true q299
                        have ea_ := Option.some.inj (hx297_4.symm.trans hx299_4)
                        injection ea_ with ea_ en_ ec_
                        subst ea_
                        subst ec_
                        clear en_
                        go_wp2
                        repeat (go_quiet (fail); try go_wp2)
                        go_ret
                        exact ⟨by first | rfl | (simp [errW_none, errW_some] <;> rfl) | (simp [*, errW_none, errW_some] <;> rfl), by repeat (first | (with_reducible first | exact HB.out | apply below_alloc | apply pw_below_drewN | apply below_drew1) | exact HB.out)⟩
                    · rw [if_neg c17] at H
                      have c17b0 : (((rd_T34 t293 x27_1).f0) == ((rd_T34 t288 x27_1).f0)) = false := beq_eq_false_iff_ne.mpr c17
                      have c17b1 : (((rd_T34 t293 x27_1).f0) != ((rd_T34 t288 x27_1).f0)) = true := bne_iff_ne.mpr c17
                      obtain rfl := Option.some.inj H
                      have p296 : 0 ≤ (x27_1 : Int) := of_decide_eq_true (by first | (with_reducible assumption) | assumption)
                      have q296 : x27_1 < (t293.length : Int) := of_decide_eq_true (by first | (with_reducible assumption) | assumption)
                      obtain ⟨ad296, A296_4, c296_4, e296, hx296_0, hx296_1, hx296_2, hx296_3, hx296_4, hl296_4, hi296_4⟩ := at_T34 (Kd.S_reads' HO_5.out).2.2 x27_1 p296 q296
                      cases e296
                      obtain ⟨ce296, hce296, hMe296, hcc296⟩ := Kd.S_get HO_5.out z34 x27_1 p296 (by first | exact q296 | exact of_decide_eq_true (by first | (with_reducible assumption) | assumption) | (have e_ := (Kd.S_reads' HO_5.out).1; omega))
                      obtain ⟨ve296_4, rfl, ge296_4⟩ := k34_openM hMe296
                      have hv296_4 := hcc296 4 _ rfl
                      rw [add_field _ _ 4 (by omega)] at hv296_4
                      replace hv296_4 := Option.some.inj (hv296_4.symm.trans hx296_4)
                      rw [hv296_4] at ge296_4
                      have HL296_4 := Aside0.mk (show Kd.R Kd.bool 4 _ _ _ _ ((rd_T34 t293 x27_1).f4) from ge296_4)
                      clear hv296_4 ge296_4
                      clear hcc296 hce296
                      have HR296_4 := Aside0.mk hi296_4
                      have HC296_4 := Aside0.mk hl296_4
                      clear hi296_4 hl296_4
                      replace p296 := eq_true p296
                      replace q296 := eq_true q296
                      have p297 : 0 ≤ (x27_1 : Int) := of_decide_eq_true (by first | (with_reducible assumption) | assumption)
                      have q297 : x27_1 < (t288.length : Int) := of_decide_eq_true (by first | (with_reducible assumption) | assumption)
                      obtain ⟨ad297, A297_4, c297_4, e297, hx297_0, hx297_1, hx297_2, hx297_3, hx297_4, hl297_4, hi297_4⟩ := at_T34 (Kd.S_reads' HO_3.out).2.2 x27_1 p297 q297
                      cases e297
                      obtain ⟨ce297, hce297, hMe297, hcc297⟩ := Kd.S_get HO_3.out z34 x27_1 p297 (by first | exact q297 | exact of_decide_eq_true (by first | (with_reducible assumption) | assumption) | (have e_ := (Kd.S_reads' HO_3.out).1; omega))
                      obtain ⟨ve297_4, rfl, ge297_4⟩ := k34_openM hMe297
                      have hv297_4 := hcc297 4 _ rfl
                      rw [add_field _ _ 4 (by omega)] at hv297_4
                      replace hv297_4 := Option.some.inj (hv297_4.symm.trans hx297_4)
                      rw [hv297_4] at ge297_4
                      have HL297_4 := Aside0.mk (show Kd.R Kd.bool 4 _ _ _ _ ((rd_T34 t288 x27_1).f4) from ge297_4)
                      clear hv297_4 ge297_4
                      clear hcc297 hce297
                      have HR297_4 := Aside0.mk hi297_4
                      have HC297_4 := Aside0.mk hl297_4
                      clear hi297_4 hl297_4
                      replace p297 := eq_true p297
                      replace q297 := eq_true q297
                      go_wp2
                      repeat (go_quiet (fail); try go_wp2)
                      go_ret
                      exact ⟨by first | rfl | (simp [errW_none, errW_some] <;> rfl) | (simp [*, errW_none, errW_some] <;> rfl), by repeat (first | (with_reducible first | exact HB.out | apply below_alloc | apply pw_below_drewN | apply below_drew1) | exact HB.out)⟩
                  · rw [if_neg c16] at H
                    exact absurd H (by simp)
                · rw [if_neg c15] at H
                  exact absurd H (by simp)
              · rw [if_neg c14] at H
                exact absurd H (by simp)
            · rw [if_neg c13] at H
              have c13b0 : decide (x27_1 < (t293.length : Int)) = false := decide_eq_false c13
              clear c13
              replace H := Option.bind_eq_some_iff.mp H
              obtain ⟨t300, A190, H⟩ := H
              replace H : (some t300) = some r := H
              have A19 := Aside0.mk A190
              clear A190
              obtain rfl := Option.some.inj H
              go_wp2_with (first | (go_at_call 13; (with_reducible refine (laws_marksWork.calls  t300 _ A19.out).mono ?_); rintro e w20 ⟨rfl, hb⟩; have n0_ := Aside0.mk (Kd.S_below (by (with_reducible repeat (first | apply Kd.S_alloc | apply Kd.S_drewN | apply Kd.S_drew)); exact HO_3.out) hb); have n1_ := Aside0.mk (Kd.S_below (by (with_reducible repeat (first | apply Kd.S_alloc | apply Kd.S_drewN | apply Kd.S_drew)); exact HO_5.out) hb); have n2_ := Aside0.mk (below_step (by repeat (first | (with_reducible first | exact HB.out | apply below_alloc | apply pw_below_drewN | apply below_drew1) | exact HB.out)) hb); clear HO_3; clear HO_5; clear HB; have HO_3 := n0_; have HO_5 := n1_; have HB := n2_; clear n0_ n1_ n2_; (try clear hb); (try clear hb2); (try clear hk); (try clear hi)))
              repeat (go_quiet (first | (go_at_call 13; (with_reducible refine (laws_marksWork.calls  t300 _ A19.out).mono ?_); rintro e w20 ⟨rfl, hb⟩; have n0_ := Aside0.mk (Kd.S_below (by (with_reducible repeat (first | apply Kd.S_alloc | apply Kd.S_drewN | apply Kd.S_drew)); exact HO_3.out) hb); have n1_ := Aside0.mk (Kd.S_below (by (with_reducible repeat (first | apply Kd.S_alloc | apply Kd.S_drewN | apply Kd.S_drew)); exact HO_5.out) hb); have n2_ := Aside0.mk (below_step (by repeat (first | (with_reducible first | exact HB.out | apply below_alloc | apply pw_below_drewN | apply below_drew1) | exact HB.out)) hb); clear HO_3; clear HO_5; clear HB; have HO_3 := n0_; have HO_5 := n1_; have HB := n2_; clear n0_ n1_ n2_; (try clear hb); (try clear hb2); (try clear hk); (try clear hi))); try go_wp2_with (first | (go_at_call 13; (with_reducible refine (laws_marksWork.calls  t300 _ A19.out).mono ?_); rintro e w20 ⟨rfl, hb⟩; have n0_ := Aside0.mk (Kd.S_below (by (with_reducible repeat (first | apply Kd.S_alloc | apply Kd.S_drewN | apply Kd.S_drew)); exact HO_3.out) hb); have n1_ := Aside0.mk (Kd.S_below (by (with_reducible repeat (first | apply Kd.S_alloc | apply Kd.S_drewN | apply Kd.S_drew)); exact HO_5.out) hb); have n2_ := Aside0.mk (below_step (by repeat (first | (with_reducible first | exact HB.out | apply below_alloc | apply pw_below_drewN | apply below_drew1) | exact HB.out)) hb); clear HO_3; clear HO_5; clear HB; have HO_3 := n0_; have HO_5 := n1_; have HB := n2_; clear n0_ n1_ n2_; (try clear hb); (try clear hb2); (try clear hk); (try clear hi))))
              go_ret
              exact ⟨by first | rfl | (simp [errW_none, errW_some] <;> rfl) | (simp [*, errW_none, errW_some] <;> rfl), by repeat (first | (with_reducible first | exact HB.out | apply below_alloc | apply pw_below_drewN | apply below_drew1) | exact HB.out)⟩
      · rw [if_neg c7] at H
        have c7b0 : ((t293.length : Int) == (t288.length : Int)) = false := beq_eq_false_iff_ne.mpr c7
        have c7b1 : ((t293.length : Int) != (t288.length : Int)) = true := bne_iff_ne.mpr c7
        have c7b2 : (t293.length == t288.length) = false := by first | simpa using c7 | (simp at c7 ⊢; omega)
        obtain rfl := Option.some.inj H
        go_enter Try.func7, Try.ntmps7
        go_wp2_with (first | (go_at_call 11; (with_reducible refine (laws_zzFits1.calls k _ _ l0 true _ ?side1 ?side2 A2.out).mono ?_); (case side1 => repeat (first | exact HR0.out | (with_reducible refine Kd.C_alloc ?_ _) | (with_reducible refine Kd.C_drewN ?_ _) | (with_reducible refine Kd.C_drew ?_))); (case side2 => exact HC0.out); rintro e w21 ⟨rfl, hb⟩; have n0_ := Aside0.mk (below_step (by repeat (first | (with_reducible first | exact HB.out | apply below_alloc | apply pw_below_drewN | apply below_drew1) | exact HB.out)) hb); clear HB; have HB := n0_; clear n0_; (try clear hb); (try clear hb2); (try clear hk); (try clear hi)) | (go_at_call 12; (with_reducible refine (spec_Marks.calls _ _ l0 t288 true _ ?side1 ?side2 A4.out).mono ?_); (case side1 => repeat (first | exact (Kd.C_below HR0.out HB.out) | (with_reducible refine Kd.C_alloc ?_ _) | (with_reducible refine Kd.C_drewN ?_ _) | (with_reducible refine Kd.C_drew ?_))); (case side2 => exact HC0.out); rintro e w22 ⟨v290, rfl, ho0, hb⟩; have n0_ := Aside0.mk (Kd.S_lower ho0 (below_size (by repeat (first | (with_reducible first | exact HB.out | apply below_alloc | apply pw_below_drewN | apply below_drew1) | exact HB.out)))); have n1_ := Aside0.mk (below_step (by repeat (first | (with_reducible first | exact HB.out | apply below_alloc | apply pw_below_drewN | apply below_drew1) | exact HB.out)) hb); clear HB; have HO291 := n0_; have HB := n1_; clear n0_ n1_; (try clear hb); (try clear hb2); (try clear hk); (try clear hi); (try clear ho0)) | (go_at_call 14; (with_reducible refine (impl_RunMarks.calls _ _ l0 t293 _ ?side1 ?side2 A6.out).mono ?_); (case side1 => repeat (first | exact (Kd.C_below HR0.out HB.out) | (with_reducible refine Kd.C_alloc ?_ _) | (with_reducible refine Kd.C_drewN ?_ _) | (with_reducible refine Kd.C_drew ?_))); (case side2 => exact HC0.out); rintro e w23 ⟨v294, rfl, ho0, hb⟩; have n0_ := Aside0.mk (Kd.S_elder' (by (with_reducible repeat (first | apply Kd.S_alloc | apply Kd.S_drewN | apply Kd.S_drew)); exact HO291.out) (Kd.S_base ho0) hb); have n1_ := Aside0.mk (Kd.S_lower (Kd.S_new' ho0 (Kd.S_lt (by (with_reducible repeat (first | apply Kd.S_alloc | apply Kd.S_drewN | apply Kd.S_drew)); exact HO291.out))) (below_size (by repeat (first | (with_reducible first | exact HB.out | apply below_alloc | apply pw_below_drewN | apply below_drew1) | exact HB.out)))); have n2_ := Aside0.mk (below_step (by repeat (first | (with_reducible first | exact HB.out | apply below_alloc | apply pw_below_drewN | apply below_drew1) | exact HB.out)) hb); clear HO291; clear HB; have HO291 := n0_; have HO295 := n1_; have HB := n2_; clear n0_ n1_ n2_; (try clear hb); (try clear hb2); (try clear hk); (try clear hi); (try clear ho0); obtain ⟨Ao24, co24, eo24⟩ := Kd.S_slice HO295.out; subst eo24; obtain ⟨Ao25, co25, eo25⟩ := Kd.S_slice HO291.out; subst eo25))
        repeat (go_quiet (first | (go_at_call 11; (with_reducible refine (laws_zzFits1.calls k _ _ l0 true _ ?side1 ?side2 A2.out).mono ?_); (case side1 => repeat (first | exact HR0.out | (with_reducible refine Kd.C_alloc ?_ _) | (with_reducible refine Kd.C_drewN ?_ _) | (with_reducible refine Kd.C_drew ?_))); (case side2 => exact HC0.out); rintro e w21 ⟨rfl, hb⟩; have n0_ := Aside0.mk (below_step (by repeat (first | (with_reducible first | exact HB.out | apply below_alloc | apply pw_below_drewN | apply below_drew1) | exact HB.out)) hb); clear HB; have HB := n0_; clear n0_; (try clear hb); (try clear hb2); (try clear hk); (try clear hi)) | (go_at_call 12; (with_reducible refine (spec_Marks.calls _ _ l0 t288 true _ ?side1 ?side2 A4.out).mono ?_); (case side1 => repeat (first | exact (Kd.C_below HR0.out HB.out) | (with_reducible refine Kd.C_alloc ?_ _) | (with_reducible refine Kd.C_drewN ?_ _) | (with_reducible refine Kd.C_drew ?_))); (case side2 => exact HC0.out); rintro e w22 ⟨v290, rfl, ho0, hb⟩; have n0_ := Aside0.mk (Kd.S_lower ho0 (below_size (by repeat (first | (with_reducible first | exact HB.out | apply below_alloc | apply pw_below_drewN | apply below_drew1) | exact HB.out)))); have n1_ := Aside0.mk (below_step (by repeat (first | (with_reducible first | exact HB.out | apply below_alloc | apply pw_below_drewN | apply below_drew1) | exact HB.out)) hb); clear HB; have HO291 := n0_; have HB := n1_; clear n0_ n1_; (try clear hb); (try clear hb2); (try clear hk); (try clear hi); (try clear ho0)) | (go_at_call 14; (with_reducible refine (impl_RunMarks.calls _ _ l0 t293 _ ?side1 ?side2 A6.out).mono ?_); (case side1 => repeat (first | exact (Kd.C_below HR0.out HB.out) | (with_reducible refine Kd.C_alloc ?_ _) | (with_reducible refine Kd.C_drewN ?_ _) | (with_reducible refine Kd.C_drew ?_))); (case side2 => exact HC0.out); rintro e w23 ⟨v294, rfl, ho0, hb⟩; have n0_ := Aside0.mk (Kd.S_elder' (by (with_reducible repeat (first | apply Kd.S_alloc | apply Kd.S_drewN | apply Kd.S_drew)); exact HO291.out) (Kd.S_base ho0) hb); have n1_ := Aside0.mk (Kd.S_lower (Kd.S_new' ho0 (Kd.S_lt (by (with_reducible repeat (first | apply Kd.S_alloc | apply Kd.S_drewN | apply Kd.S_drew)); exact HO291.out))) (below_size (by repeat (first | (with_reducible first | exact HB.out | apply below_alloc | apply pw_below_drewN | apply below_drew1) | exact HB.out)))); have n2_ := Aside0.mk (below_step (by repeat (first | (with_reducible first | exact HB.out | apply below_alloc | apply pw_below_drewN | apply below_drew1) | exact HB.out)) hb); clear HO291; clear HB; have HO291 := n0_; have HO295 := n1_; have HB := n2_; clear n0_ n1_ n2_; (try clear hb); (try clear hb2); (try clear hk); (try clear hi); (try clear ho0); obtain ⟨Ao24, co24, eo24⟩ := Kd.S_slice HO295.out; subst eo24; obtain ⟨Ao25, co25, eo25⟩ := Kd.S_slice HO291.out; subst eo25)); try go_wp2_with (first | (go_at_call 11; (with_reducible refine (laws_zzFits1.calls k _ _ l0 true _ ?side1 ?side2 A2.out).mono ?_); (case side1 => repeat (first | exact HR0.out | (with_reducible refine Kd.C_alloc ?_ _) | (with_reducible refine Kd.C_drewN ?_ _) | (with_reducible refine Kd.C_drew ?_))); (case side2 => exact HC0.out); rintro e w21 ⟨rfl, hb⟩; have n0_ := Aside0.mk (below_step (by repeat (first | (with_reducible first | exact HB.out | apply below_alloc | apply pw_below_drewN | apply below_drew1) | exact HB.out)) hb); clear HB; have HB := n0_; clear n0_; (try clear hb); (try clear hb2); (try clear hk); (try clear hi)) | (go_at_call 12; (with_reducible refine (spec_Marks.calls _ _ l0 t288 true _ ?side1 ?side2 A4.out).mono ?_); (case side1 => repeat (first | exact (Kd.C_below HR0.out HB.out) | (with_reducible refine Kd.C_alloc ?_ _) | (with_reducible refine Kd.C_drewN ?_ _) | (with_reducible refine Kd.C_drew ?_))); (case side2 => exact HC0.out); rintro e w22 ⟨v290, rfl, ho0, hb⟩; have n0_ := Aside0.mk (Kd.S_lower ho0 (below_size (by repeat (first | (with_reducible first | exact HB.out | apply below_alloc | apply pw_below_drewN | apply below_drew1) | exact HB.out)))); have n1_ := Aside0.mk (below_step (by repeat (first | (with_reducible first | exact HB.out | apply below_alloc | apply pw_below_drewN | apply below_drew1) | exact HB.out)) hb); clear HB; have HO291 := n0_; have HB := n1_; clear n0_ n1_; (try clear hb); (try clear hb2); (try clear hk); (try clear hi); (try clear ho0)) | (go_at_call 14; (with_reducible refine (impl_RunMarks.calls _ _ l0 t293 _ ?side1 ?side2 A6.out).mono ?_); (case side1 => repeat (first | exact (Kd.C_below HR0.out HB.out) | (with_reducible refine Kd.C_alloc ?_ _) | (with_reducible refine Kd.C_drewN ?_ _) | (with_reducible refine Kd.C_drew ?_))); (case side2 => exact HC0.out); rintro e w23 ⟨v294, rfl, ho0, hb⟩; have n0_ := Aside0.mk (Kd.S_elder' (by (with_reducible repeat (first | apply Kd.S_alloc | apply Kd.S_drewN | apply Kd.S_drew)); exact HO291.out) (Kd.S_base ho0) hb); have n1_ := Aside0.mk (Kd.S_lower (Kd.S_new' ho0 (Kd.S_lt (by (with_reducible repeat (first | apply Kd.S_alloc | apply Kd.S_drewN | apply Kd.S_drew)); exact HO291.out))) (below_size (by repeat (first | (with_reducible first | exact HB.out | apply below_alloc | apply pw_below_drewN | apply below_drew1) | exact HB.out)))); have n2_ := Aside0.mk (below_step (by repeat (first | (with_reducible first | exact HB.out | apply below_alloc | apply pw_below_drewN | apply below_drew1) | exact HB.out)) hb); clear HO291; clear HB; have HO291 := n0_; have HO295 := n1_; have HB := n2_; clear n0_ n1_ n2_; (try clear hb); (try clear hb2); (try clear hk); (try clear hi); (try clear ho0); obtain ⟨Ao24, co24, eo24⟩ := Kd.S_slice HO295.out; subst eo24; obtain ⟨Ao25, co25, eo25⟩ := Kd.S_slice HO291.out; subst eo25)))
        go_ret
        exact ⟨by first | rfl | (simp [errW_none, errW_some] <;> rfl) | (simp [*, errW_none, errW_some] <;> rfl), by repeat (first | (with_reducible first | exact HB.out | apply below_alloc | apply pw_below_drewN | apply below_drew1) | exact HB.out)⟩
    · replace c5 := Bool.eq_false_iff.mpr c5
      subst c5
      have H1 : ((laws_marksWork.f).bind fun t292 => (some t292)) = some r := by rw [if_neg (show ¬ (false = true) by decide)] at H; exact H
      clear H
      have H := H1
      clear H1
      replace H := Option.bind_eq_some_iff.mp H
      obtain ⟨t292, A260, H⟩ := H
      replace H : (some t292) = some r := H
      have A26 := Aside0.mk A260
      clear A260
      obtain rfl := Option.some.inj H
      go_enter Try.func7, Try.ntmps7
      go_wp2_with (first | (go_at_call 11; (with_reducible refine (laws_zzFits1.calls k _ _ l0 true _ ?side1 ?side2 A2.out).mono ?_); (case side1 => repeat (first | exact HR0.out | (with_reducible refine Kd.C_alloc ?_ _) | (with_reducible refine Kd.C_drewN ?_ _) | (with_reducible refine Kd.C_drew ?_))); (case side2 => exact HC0.out); rintro e w27 ⟨rfl, hb⟩; have n0_ := Aside0.mk (below_step (by repeat (first | (with_reducible first | exact HB.out | apply below_alloc | apply pw_below_drewN | apply below_drew1) | exact HB.out)) hb); clear HB; have HB := n0_; clear n0_; (try clear hb); (try clear hb2); (try clear hk); (try clear hi)) | (go_at_call 12; (with_reducible refine (spec_Marks.calls _ _ l0 t288 false _ ?side1 ?side2 A4.out).mono ?_); (case side1 => repeat (first | exact (Kd.C_below HR0.out HB.out) | (with_reducible refine Kd.C_alloc ?_ _) | (with_reducible refine Kd.C_drewN ?_ _) | (with_reducible refine Kd.C_drew ?_))); (case side2 => exact HC0.out); rintro e w28 ⟨v290, rfl, ho0, hb⟩; have n0_ := Aside0.mk (Kd.S_lower ho0 (below_size (by repeat (first | (with_reducible first | exact HB.out | apply below_alloc | apply pw_below_drewN | apply below_drew1) | exact HB.out)))); have n1_ := Aside0.mk (below_step (by repeat (first | (with_reducible first | exact HB.out | apply below_alloc | apply pw_below_drewN | apply below_drew1) | exact HB.out)) hb); clear HB; have HO291 := n0_; have HB := n1_; clear n0_ n1_; (try clear hb); (try clear hb2); (try clear hk); (try clear hi); (try clear ho0)) | (go_at_call 13; (with_reducible refine (laws_marksWork.calls  t292 _ A26.out).mono ?_); rintro e w29 ⟨rfl, hb⟩; have n0_ := Aside0.mk (Kd.S_below (by (with_reducible repeat (first | apply Kd.S_alloc | apply Kd.S_drewN | apply Kd.S_drew)); exact HO291.out) hb); have n1_ := Aside0.mk (below_step (by repeat (first | (with_reducible first | exact HB.out | apply below_alloc | apply pw_below_drewN | apply below_drew1) | exact HB.out)) hb); clear HO291; clear HB; have HO291 := n0_; have HB := n1_; clear n0_ n1_; (try clear hb); (try clear hb2); (try clear hk); (try clear hi)))
      repeat (go_quiet (first | (go_at_call 11; (with_reducible refine (laws_zzFits1.calls k _ _ l0 true _ ?side1 ?side2 A2.out).mono ?_); (case side1 => repeat (first | exact HR0.out | (with_reducible refine Kd.C_alloc ?_ _) | (with_reducible refine Kd.C_drewN ?_ _) | (with_reducible refine Kd.C_drew ?_))); (case side2 => exact HC0.out); rintro e w27 ⟨rfl, hb⟩; have n0_ := Aside0.mk (below_step (by repeat (first | (with_reducible first | exact HB.out | apply below_alloc | apply pw_below_drewN | apply below_drew1) | exact HB.out)) hb); clear HB; have HB := n0_; clear n0_; (try clear hb); (try clear hb2); (try clear hk); (try clear hi)) | (go_at_call 12; (with_reducible refine (spec_Marks.calls _ _ l0 t288 false _ ?side1 ?side2 A4.out).mono ?_); (case side1 => repeat (first | exact (Kd.C_below HR0.out HB.out) | (with_reducible refine Kd.C_alloc ?_ _) | (with_reducible refine Kd.C_drewN ?_ _) | (with_reducible refine Kd.C_drew ?_))); (case side2 => exact HC0.out); rintro e w28 ⟨v290, rfl, ho0, hb⟩; have n0_ := Aside0.mk (Kd.S_lower ho0 (below_size (by repeat (first | (with_reducible first | exact HB.out | apply below_alloc | apply pw_below_drewN | apply below_drew1) | exact HB.out)))); have n1_ := Aside0.mk (below_step (by repeat (first | (with_reducible first | exact HB.out | apply below_alloc | apply pw_below_drewN | apply below_drew1) | exact HB.out)) hb); clear HB; have HO291 := n0_; have HB := n1_; clear n0_ n1_; (try clear hb); (try clear hb2); (try clear hk); (try clear hi); (try clear ho0)) | (go_at_call 13; (with_reducible refine (laws_marksWork.calls  t292 _ A26.out).mono ?_); rintro e w29 ⟨rfl, hb⟩; have n0_ := Aside0.mk (Kd.S_below (by (with_reducible repeat (first | apply Kd.S_alloc | apply Kd.S_drewN | apply Kd.S_drew)); exact HO291.out) hb); have n1_ := Aside0.mk (below_step (by repeat (first | (with_reducible first | exact HB.out | apply below_alloc | apply pw_below_drewN | apply below_drew1) | exact HB.out)) hb); clear HO291; clear HB; have HO291 := n0_; have HB := n1_; clear n0_ n1_; (try clear hb); (try clear hb2); (try clear hk); (try clear hi))); try go_wp2_with (first | (go_at_call 11; (with_reducible refine (laws_zzFits1.calls k _ _ l0 true _ ?side1 ?side2 A2.out).mono ?_); (case side1 => repeat (first | exact HR0.out | (with_reducible refine Kd.C_alloc ?_ _) | (with_reducible refine Kd.C_drewN ?_ _) | (with_reducible refine Kd.C_drew ?_))); (case side2 => exact HC0.out); rintro e w27 ⟨rfl, hb⟩; have n0_ := Aside0.mk (below_step (by repeat (first | (with_reducible first | exact HB.out | apply below_alloc | apply pw_below_drewN | apply below_drew1) | exact HB.out)) hb); clear HB; have HB := n0_; clear n0_; (try clear hb); (try clear hb2); (try clear hk); (try clear hi)) | (go_at_call 12; (with_reducible refine (spec_Marks.calls _ _ l0 t288 false _ ?side1 ?side2 A4.out).mono ?_); (case side1 => repeat (first | exact (Kd.C_below HR0.out HB.out) | (with_reducible refine Kd.C_alloc ?_ _) | (with_reducible refine Kd.C_drewN ?_ _) | (with_reducible refine Kd.C_drew ?_))); (case side2 => exact HC0.out); rintro e w28 ⟨v290, rfl, ho0, hb⟩; have n0_ := Aside0.mk (Kd.S_lower ho0 (below_size (by repeat (first | (with_reducible first | exact HB.out | apply below_alloc | apply pw_below_drewN | apply below_drew1) | exact HB.out)))); have n1_ := Aside0.mk (below_step (by repeat (first | (with_reducible first | exact HB.out | apply below_alloc | apply pw_below_drewN | apply below_drew1) | exact HB.out)) hb); clear HB; have HO291 := n0_; have HB := n1_; clear n0_ n1_; (try clear hb); (try clear hb2); (try clear hk); (try clear hi); (try clear ho0)) | (go_at_call 13; (with_reducible refine (laws_marksWork.calls  t292 _ A26.out).mono ?_); rintro e w29 ⟨rfl, hb⟩; have n0_ := Aside0.mk (Kd.S_below (by (with_reducible repeat (first | apply Kd.S_alloc | apply Kd.S_drewN | apply Kd.S_drew)); exact HO291.out) hb); have n1_ := Aside0.mk (below_step (by repeat (first | (with_reducible first | exact HB.out | apply below_alloc | apply pw_below_drewN | apply below_drew1) | exact HB.out)) hb); clear HO291; clear HB; have HO291 := n0_; have HB := n1_; clear n0_ n1_; (try clear hb); (try clear hb2); (try clear hk); (try clear hi))))
      go_ret
      exact ⟨by first | rfl | (simp [errW_none, errW_some] <;> rfl) | (simp [*, errW_none, errW_some] <;> rfl), by repeat (first | (with_reducible first | exact HB.out | apply below_alloc | apply pw_below_drewN | apply below_drew1) | exact HB.out)⟩
  · replace c3 := Bool.eq_false_iff.mpr c3
    subst c3
    have H1 : (some true) = some r := by rw [if_neg (show ¬ (false = true) by decide)] at H; exact H
    clear H
    have H := H1
    clear H1
    obtain rfl := Option.some.inj H
    go_enter Try.func7, Try.ntmps7
    go_wp2_with (first | (go_at_call 11; (with_reducible refine (laws_zzFits1.calls k _ _ l0 false _ ?side1 ?side2 A2.out).mono ?_); (case side1 => repeat (first | exact HR0.out | (with_reducible refine Kd.C_alloc ?_ _) | (with_reducible refine Kd.C_drewN ?_ _) | (with_reducible refine Kd.C_drew ?_))); (case side2 => exact HC0.out); rintro e w30 ⟨rfl, hb⟩; have n0_ := Aside0.mk (below_step (by repeat (first | (with_reducible first | exact HB.out | apply below_alloc | apply pw_below_drewN | apply below_drew1) | exact HB.out)) hb); clear HB; have HB := n0_; clear n0_; (try clear hb); (try clear hb2); (try clear hk); (try clear hi)))
    repeat (go_quiet (first | (go_at_call 11; (with_reducible refine (laws_zzFits1.calls k _ _ l0 false _ ?side1 ?side2 A2.out).mono ?_); (case side1 => repeat (first | exact HR0.out | (with_reducible refine Kd.C_alloc ?_ _) | (with_reducible refine Kd.C_drewN ?_ _) | (with_reducible refine Kd.C_drew ?_))); (case side2 => exact HC0.out); rintro e w30 ⟨rfl, hb⟩; have n0_ := Aside0.mk (below_step (by repeat (first | (with_reducible first | exact HB.out | apply below_alloc | apply pw_below_drewN | apply below_drew1) | exact HB.out)) hb); clear HB; have HB := n0_; clear n0_; (try clear hb); (try clear hb2); (try clear hk); (try clear hi))); try go_wp2_with (first | (go_at_call 11; (with_reducible refine (laws_zzFits1.calls k _ _ l0 false _ ?side1 ?side2 A2.out).mono ?_); (case side1 => repeat (first | exact HR0.out | (with_reducible refine Kd.C_alloc ?_ _) | (with_reducible refine Kd.C_drewN ?_ _) | (with_reducible refine Kd.C_drew ?_))); (case side2 => exact HC0.out); rintro e w30 ⟨rfl, hb⟩; have n0_ := Aside0.mk (below_step (by repeat (first | (with_reducible first | exact HB.out | apply below_alloc | apply pw_below_drewN | apply below_drew1) | exact HB.out)) hb); clear HB; have HB := n0_; clear n0_; (try clear hb); (try clear hb2); (try clear hk); (try clear hi))))
    go_ret
    exact ⟨by first | rfl | (simp [errW_none, errW_some] <;> rfl) | (simp [*, errW_none, errW_some] <;> rfl), by repeat (first | (with_reducible first | exact HB.out | apply below_alloc | apply pw_below_drewN | apply below_drew1) | exact HB.out)⟩

/-! ### spec_Moved: function 19 -/
mutual
def spec_Moved.l0 : Nat → Int → List (S31) → List (S31) → Int → Int → Option ((List (S31)))
  | 0, _, _, _, _, _ => none
  | k + 1, x1, x5, x12, x13, x14 => if x14 < x13 then (if 0 ≤ x14 then (if x14 < (x12.length : Int) then (spec_Moved.l1 k x1 x5 x12 x13 x14 ((rd_T31 x12 x14).f2) (((rd_T31 x12 x14).f2).length : Int) 0 ((rd_T31 x12 x14).f0) (wrap64 (((rd_T31 x12 x14).f1) + x1)) ([] : List Int)) else (none)) else (none)) else (some x5)
def spec_Moved.l1 : Nat → Int → List (S31) → List (S31) → Int → Int → List Int → Int → Int → Int → Int → List Int → Option ((List (S31)))
  | 0, _, _, _, _, _, _, _, _, _, _, _ => none
  | k + 1, x1, x5, x12, x13, x14, x26, x27, x28, x307000, x307001, x307002 => if x28 < x27 then (if 0 ≤ x28 then (if x28 < (x26.length : Int) then (if x307002.length < 17592186044416 then (spec_Moved.l1 k x1 x5 x12 x13 x14 x26 x27 (wrap64 (x28 + 1)) x307000 x307001 (x307002 ++ [wrap64 ((rd x26 x28) + x1)])) else (none)) else (none)) else (none)) else (if x5.length < 3518437208883 then (spec_Moved.l0 k x1 (x5 ++ [(⟨x307000, x307001, x307002⟩ : S31)]) x12 x13 (wrap64 (x14 + 1))) else (none))
end
def spec_Moved.f (k : Nat) (l0 : List (S31)) (a1 : Int) : Option ((List (S31))) := spec_Moved.l0 k a1 (([] : List (S31))) l0 (l0.length : Int) 0
theorem spec_Moved.mono_l : ∀ k, (∀ y0 y1 y2 y3 y4, LeO (spec_Moved.l0 k y0 y1 y2 y3 y4) (spec_Moved.l0 (k + 1) y0 y1 y2 y3 y4)) ∧ (∀ y0 y1 y2 y3 y4 y5 y6 y7 y8 y9 y10, LeO (spec_Moved.l1 k y0 y1 y2 y3 y4 y5 y6 y7 y8 y9 y10) (spec_Moved.l1 (k + 1) y0 y1 y2 y3 y4 y5 y6 y7 y8 y9 y10))
  | 0 => ⟨fun _ _ _ _ _ r h => by simp [spec_Moved.l0] at h, fun _ _ _ _ _ _ _ _ _ _ _ r h => by simp [spec_Moved.l1] at h⟩
  | k + 1 => by
    obtain ⟨ih0, ih1⟩ := spec_Moved.mono_l k
    refine ⟨?_, ?_⟩
    · intro y0 y1 y2 y3 y4
      unfold spec_Moved.l0
      repeat' first
      | (with_reducible exact ih0 _ _ _ _ _)
      | (with_reducible exact ih1 _ _ _ _ _ _ _ _ _ _ _)
      | (with_reducible exact LeO.refl _)
      | (with_reducible exact LeO.none _)
      | (with_reducible refine LeO.ite ?_ ?_)
      | (with_reducible refine LeO.bind ?_ (fun _ => ?_))
      | exact ih0 _ _ _ _ _
      | exact ih1 _ _ _ _ _ _ _ _ _ _ _
      | exact LeO.none _
      | refine LeO.ite ?_ ?_
      | refine LeO.bind ?_ (fun _ => ?_)
    · intro y0 y1 y2 y3 y4 y5 y6 y7 y8 y9 y10
      unfold spec_Moved.l1
      repeat' first
      | (with_reducible exact ih0 _ _ _ _ _)
      | (with_reducible exact ih1 _ _ _ _ _ _ _ _ _ _ _)
      | (with_reducible exact LeO.refl _)
      | (with_reducible exact LeO.none _)
      | (with_reducible refine LeO.ite ?_ ?_)
      | (with_reducible refine LeO.bind ?_ (fun _ => ?_))
      | exact ih0 _ _ _ _ _
      | exact ih1 _ _ _ _ _ _ _ _ _ _ _
      | exact LeO.none _
      | refine LeO.ite ?_ ?_
      | refine LeO.bind ?_ (fun _ => ?_)
theorem spec_Moved.mono : ∀ a0 a1 k, LeO (spec_Moved.f k a0 a1) (spec_Moved.f (k + 1) a0 a1) := by
  intro a0 a1 k
  obtain ⟨ih0, ih1⟩ := spec_Moved.mono_l k
  unfold spec_Moved.f
  repeat' first
      | (with_reducible exact ih0 _ _ _ _ _)
      | (with_reducible exact ih1 _ _ _ _ _ _ _ _ _ _ _)
      | (with_reducible exact LeO.refl _)
      | (with_reducible exact LeO.none _)
      | (with_reducible refine LeO.ite ?_ ?_)
      | (with_reducible refine LeO.bind ?_ (fun _ => ?_))
      | exact ih0 _ _ _ _ _
      | exact ih1 _ _ _ _ _ _ _ _ _ _ _
      | exact LeO.none _
      | refine LeO.ite ?_ ?_
      | refine LeO.bind ?_ (fun _ => ?_)
set_option maxHeartbeats 8000000 in
set_option maxRecDepth 100000 in
theorem spec_Moved.calls (k : Nat) (A0 : Option Addr) (c0 : Nat) (l0 : List (S31)) (a1 : Int) (r : List (S31)) (w : World) (hr0 : Kd.C k31 w A0 l0.length l0) (hc0 : l0.length ≤ c0) (h : spec_Moved.f k l0 a1 = some r) :
    Calls Try.prog 19 #[.slice A0 l0.length c0, .int .i64 a1] w fun e w' => ∃ v0_ : Value, e = .returned (v0_) ∧ Kd.S k31 31 w' w.heap.size (fun _ => True) v0_ r ∧ Below w.heap.size w w' := by
  have hu31 := Try.underlying31
  have HR0 := Aside0.mk hr0
  have HC0 := Aside0.mk hc0
  clear hr0 hc0
  have HB := Aside0.mk (Below.refl w.heap.size w)
  have H : (spec_Moved.l0 k a1 (([] : List (S31))) l0 (l0.length : Int) 0) = some r := h
  clear h
  obtain ⟨y301, hy301⟩ : ∃ y_ : List (S31), y_ = (([] : List (S31))) := ⟨_, rfl⟩
  replace H : (spec_Moved.l0 k a1 y301 l0 (l0.length : Int) 0) = some r := by first | (rw [hy301]; with_reducible exact H) | (have H2_ := (Option.bind_some _ _).symm.trans H; rw [hy301]; with_reducible exact H2_) | (have H2_ := (Option.bind_some _ _).symm.trans H; with_reducible exact H2_) | with_reducible exact H | (rw [hy301]; exact H) | exact H
  have Ny301 := Aside0.mk hy301
  clear hy301
  have H' := Aside0.mk H
  clear H
  go_enter Try.func19, Try.ntmps19
  go_wp2_with (first | ((with_reducible refine gate_dst (N := 11) rfl ?_); refine Kd.S_lit k31 _ 31 ?hg (N := 11) ?hd (xs := ([] : List (S31))) (inner := []) (ok := fun _ => True) (okp := fun _ => True) ?hr ?hp (fun _ hk => hk) trivial (Below.refl _ _) (Nat.le_refl _) (by simp) ?_; (case hd => rfl); (case hg => rfl); (case hr => first | (go_simp; done) | (go_simp; rfl)); (case hp => exact (Reps.none _ _)); intro v302 w3 ho4 hb hg_ hnew_; clear hg_ hnew_; (first | rw [← Ny301.out] at ho4 | (simp only [Int.reduceToNat] at ho4; rw [← Ny301.out] at ho4)); have n0_ := Aside0.mk (Kd.S_lower ho4 (below_size (by repeat (first | (with_reducible first | exact HB.out | apply below_alloc | apply pw_below_drewN | apply below_drew1) | exact HB.out)))); have n1_ := Aside0.mk (below_step (by repeat (first | (with_reducible first | exact HB.out | apply below_alloc | apply pw_below_drewN | apply below_drew1) | exact HB.out)) hb); clear HB; have HO303 := n0_; have HB := n1_; clear n0_ n1_; clear hb ho4))
  go_loopg [5, 14] k (fun kq v5 v14 w' => ∃ (x5_1 : List (S31)) (x14_1 : Int), v14 = .int .i64 x14_1 ∧ Aside0 (spec_Moved.l0 kq a1 x5_1 l0 (l0.length : Int) x14_1 = some r) ∧ Aside0 (kq ≤ k) ∧ Aside0 (Kd.S k31 31 w' w.heap.size (fun _ => True) v5 x5_1) ∧ Aside0 (Below w.heap.size w w'))
  case atStart => exact ⟨(y301), (0), (by first | rfl | (simp; done) | (simp [*]; done)), H', ⟨Nat.le_refl _⟩, ⟨by (with_reducible repeat (first | apply Kd.S_alloc | apply Kd.S_drewN | apply Kd.S_drew)); exact HO303.out⟩, ⟨by repeat (first | (with_reducible first | exact HB.out | apply below_alloc | apply pw_below_drewN | apply below_drew1) | exact HB.out)⟩⟩
  case round =>
    clear H'
    try clear c1
    try clear p2
    obtain ⟨x5_1, x14_1, rfl, HA, HK1, HO_5, HB⟩ := hrel
    cases gk with
    | zero => exact absurd HA.out (by simp [spec_Moved.l0])
    | succ k1 =>
      have H := HA.out
      clear HA
      simp only [spec_Moved.l0] at H
      by_cases c5 : x14_1 < (l0.length : Int)
      · rw [if_pos c5] at H
        have c5b0 : decide (x14_1 < (l0.length : Int)) = true := decide_eq_true c5
        clear c5
        by_cases c6 : 0 ≤ x14_1
        · rw [if_pos c6] at H
          have c6b0 : decide (0 ≤ x14_1) = true := decide_eq_true c6
          clear c6
          by_cases c7 : x14_1 < (l0.length : Int)
          · rw [if_pos c7] at H
            have c7b0 : decide (x14_1 < (l0.length : Int)) = true := decide_eq_true c7
            clear c7
            have H' := Aside0.mk H
            clear H
            have p304 : 0 ≤ (x14_1 : Int) := of_decide_eq_true (by first | (with_reducible assumption) | assumption)
            have q304 : x14_1 < (l0.length : Int) := of_decide_eq_true (by first | (with_reducible assumption) | assumption)
            obtain ⟨ad304, A304_2, c304_2, e304, hx304_0, hx304_1, hx304_2, hl304_2, hi304_2⟩ := at_T31 HR0.out x14_1 p304 q304
            cases e304
            replace hx304_0 := (HB.out.cell (World.block_lt_of_cell? w _ hx304_0)).trans hx304_0
            replace hx304_1 := (HB.out.cell (World.block_lt_of_cell? w _ hx304_1)).trans hx304_1
            replace hx304_2 := (HB.out.cell (World.block_lt_of_cell? w _ hx304_2)).trans hx304_2
            have HR304_2 := Aside0.mk hi304_2
            have HC304_2 := Aside0.mk hl304_2
            clear hi304_2 hl304_2
            replace p304 := eq_true p304
            replace q304 := eq_true q304
            go_wp2_with (first | ((with_reducible refine gate_dst (N := 7) rfl ?_); refine box_event ?hg (N := 7) ?hd (cs := #[.int .i64 0, .int .i64 0, .slice none 0 0]) (t := 31) ?hr ?_; (case hd => rfl); (case hg => rfl); (case hr => first | (go_simp; done) | (go_simp; rfl)); intro gb305 hg w8 hbox hb; have n0_ := Aside0.mk (Kd.S_below (Kd.S_elderB (by (with_reducible repeat (first | apply Kd.S_alloc | apply Kd.S_drewN | apply Kd.S_drew)); exact HO_5.out) gb305 (Nat.le_of_eq hg.symm)) hb); have n1_ := Aside0.mk (below_step (by repeat (first | (with_reducible first | exact HB.out | apply below_alloc | apply pw_below_drewN | apply below_drew1) | exact HB.out)) hb); have n2_ := Aside0.mk (hbox); have n3_ := Aside0.mk ((by rw [hg]; exact (below_size (by repeat (first | (with_reducible first | exact HB.out | apply below_alloc | apply pw_below_drewN | apply below_drew1) | exact HB.out))) : w.heap.size ≤ gb305)); have n4_ := Aside0.mk ((by rw [hg]; exact (below_size (by repeat (first | (with_reducible first | exact HB.out | apply below_alloc | apply pw_below_drewN | apply below_drew1) | exact HB.out))) : w.heap.size ≤ gb305)); clear HO_5; clear HB; have HO_5 := n0_; have HB := n1_; have BK305 := n2_; have GW305 := n3_; have GE305 := n4_; clear n0_ n1_ n2_ n3_ n4_; clear hb hbox hg; have hcz9_0 : w8.cell? ⟨gb305, 0, none⟩ = some (.int .i64 0) := (blk_cell BK305.out 0).trans rfl; have hcz9_1 : w8.cell? ⟨gb305, 1, none⟩ = some (.int .i64 0) := (blk_cell BK305.out 1).trans rfl; have hcz9_2 : w8.cell? ⟨gb305, 2, none⟩ = some (.slice none 0 0) := (blk_cell BK305.out 2).trans rfl; have hfz9_0 := blk_frozen BK305.out 0; have hfz9_1 := blk_frozen BK305.out 1; have hfz9_2 := blk_frozen BK305.out 2) | ((with_reducible refine gate_dst (N := 8) rfl ?_); refine box_event ?hg (N := 8) ?hd (cs := #[.int .i64 0, .int .i64 0, .slice none 0 0]) (t := 31) ?hr ?_; (case hd => rfl); (case hg => rfl); (case hr => first | (go_simp; done) | (go_simp; rfl)); intro gb306 hg w10 hbox hb; have n0_ := Aside0.mk (Kd.S_below (Kd.S_elderB (by (with_reducible repeat (first | apply Kd.S_alloc | apply Kd.S_drewN | apply Kd.S_drew)); exact (Kd.S_mono (Kd.S_far (p := ⟨gb305, 2, none⟩) (Kd.S_far (p := ⟨gb305, 1, none⟩) (Kd.S_far (p := ⟨gb305, 0, none⟩) (Kd.S_mono HO_5.out (fun k_ hk => (⟨hk, hk.2⟩ : _ ∧ k_ ≠ gb305))) (fun _ hk => hk.2) (.int .i64 ((rd_T31 l0 x14_1).f0))) (fun _ hk => hk.2) (.int .i64 ((rd_T31 l0 x14_1).f1))) (fun _ hk => hk.2) (.slice A304_2 ((rd_T31 l0 x14_1).f2).length c304_2)) (fun _ h_ => h_.1))) gb306 (Nat.le_of_eq hg.symm)) hb); have n1_ := Aside0.mk (blk_below (g := gb305) (o := .cells #[.int .i64 ((rd_T31 l0 x14_1).f0), .int .i64 ((rd_T31 l0 x14_1).f1), .slice A304_2 ((rd_T31 l0 x14_1).f2).length c304_2] 31 (0, 0)) (by (with_reducible repeat (first | refine blk_drewN ?_ _ | refine blk_drew ?_ | refine blk_alloc ?_ _)); refine blk_put (cs := #[.int .i64 ((rd_T31 l0 x14_1).f0), .int .i64 ((rd_T31 l0 x14_1).f1), .slice none 0 0]) ?_ 2 _ rfl; (with_reducible repeat (first | refine blk_drewN ?_ _ | refine blk_drew ?_ | refine blk_alloc ?_ _)); refine blk_put (cs := #[.int .i64 ((rd_T31 l0 x14_1).f0), .int .i64 0, .slice none 0 0]) ?_ 1 _ rfl; (with_reducible repeat (first | refine blk_drewN ?_ _ | refine blk_drew ?_ | refine blk_alloc ?_ _)); refine blk_put (cs := #[.int .i64 0, .int .i64 0, .slice none 0 0]) ?_ 0 _ rfl; (with_reducible repeat (first | refine blk_drewN ?_ _ | refine blk_drew ?_ | refine blk_alloc ?_ _)); exact BK305.out) hb); have n2_ := Aside0.mk (below_step (by repeat (first | (with_reducible first | exact HB.out | apply below_alloc | apply pw_below_drewN | apply below_drew1 | refine below_set ?_ GE305.out) | exact HB.out)) hb); have n3_ := Aside0.mk (hbox); have n4_ := Aside0.mk ((by rw [hg]; exact (below_size (by repeat (first | (with_reducible first | exact HB.out | apply below_alloc | apply pw_below_drewN | apply below_drew1 | refine below_set ?_ GE305.out) | exact HB.out))) : w.heap.size ≤ gb306)); have n5_ := Aside0.mk ((by rw [hg]; exact (below_size (by repeat (first | (with_reducible first | exact HB.out | apply below_alloc | apply pw_below_drewN | apply below_drew1 | refine below_set ?_ GE305.out) | exact HB.out))) : w.heap.size ≤ gb306)); have n6_ := Aside0.mk ((by rw [hg]; exact Nat.ne_of_lt (blk_lt (g := gb305) (o := .cells #[.int .i64 ((rd_T31 l0 x14_1).f0), .int .i64 ((rd_T31 l0 x14_1).f1), .slice A304_2 ((rd_T31 l0 x14_1).f2).length c304_2] 31 (0, 0)) (by (with_reducible repeat (first | refine blk_drewN ?_ _ | refine blk_drew ?_ | refine blk_alloc ?_ _)); refine blk_put (cs := #[.int .i64 ((rd_T31 l0 x14_1).f0), .int .i64 ((rd_T31 l0 x14_1).f1), .slice none 0 0]) ?_ 2 _ rfl; (with_reducible repeat (first | refine blk_drewN ?_ _ | refine blk_drew ?_ | refine blk_alloc ?_ _)); refine blk_put (cs := #[.int .i64 ((rd_T31 l0 x14_1).f0), .int .i64 0, .slice none 0 0]) ?_ 1 _ rfl; (with_reducible repeat (first | refine blk_drewN ?_ _ | refine blk_drew ?_ | refine blk_alloc ?_ _)); refine blk_put (cs := #[.int .i64 0, .int .i64 0, .slice none 0 0]) ?_ 0 _ rfl; (with_reducible repeat (first | refine blk_drewN ?_ _ | refine blk_drew ?_ | refine blk_alloc ?_ _)); exact BK305.out)) : gb305 ≠ gb306)); have n7_ := Aside0.mk ((by rw [hg]; exact Nat.ne_of_gt (blk_lt (g := gb305) (o := .cells #[.int .i64 ((rd_T31 l0 x14_1).f0), .int .i64 ((rd_T31 l0 x14_1).f1), .slice A304_2 ((rd_T31 l0 x14_1).f2).length c304_2] 31 (0, 0)) (by (with_reducible repeat (first | refine blk_drewN ?_ _ | refine blk_drew ?_ | refine blk_alloc ?_ _)); refine blk_put (cs := #[.int .i64 ((rd_T31 l0 x14_1).f0), .int .i64 ((rd_T31 l0 x14_1).f1), .slice none 0 0]) ?_ 2 _ rfl; (with_reducible repeat (first | refine blk_drewN ?_ _ | refine blk_drew ?_ | refine blk_alloc ?_ _)); refine blk_put (cs := #[.int .i64 ((rd_T31 l0 x14_1).f0), .int .i64 0, .slice none 0 0]) ?_ 1 _ rfl; (with_reducible repeat (first | refine blk_drewN ?_ _ | refine blk_drew ?_ | refine blk_alloc ?_ _)); refine blk_put (cs := #[.int .i64 0, .int .i64 0, .slice none 0 0]) ?_ 0 _ rfl; (with_reducible repeat (first | refine blk_drewN ?_ _ | refine blk_drew ?_ | refine blk_alloc ?_ _)); exact BK305.out)) : gb306 ≠ gb305)); clear HO_5; clear BK305; clear HB; have HO_5 := n0_; have BK305 := n1_; have HB := n2_; have BK306 := n3_; have GW306 := n4_; have GE306 := n5_; have NB305_306 := n6_; have NB306_305 := n7_; clear n0_ n1_ n2_ n3_ n4_ n5_ n6_ n7_; clear hb hbox hg; have hnb11 := NB306_305.out; have hnc11 := NB305_306.out; have hcz12_0 : w10.cell? ⟨gb306, 0, none⟩ = some (.int .i64 0) := (blk_cell BK306.out 0).trans rfl; have hcz12_1 : w10.cell? ⟨gb306, 1, none⟩ = some (.int .i64 0) := (blk_cell BK306.out 1).trans rfl; have hcz12_2 : w10.cell? ⟨gb306, 2, none⟩ = some (.slice none 0 0) := (blk_cell BK306.out 2).trans rfl; have hfz12_0 := blk_frozen BK306.out 0; have hfz12_1 := blk_frozen BK306.out 1; have hfz12_2 := blk_frozen BK306.out 2; have hcz13_0 : w10.cell? ⟨gb305, 0, none⟩ = some (.int .i64 ((rd_T31 l0 x14_1).f0)) := (blk_cell BK305.out 0).trans rfl; have hcz13_1 : w10.cell? ⟨gb305, 1, none⟩ = some (.int .i64 ((rd_T31 l0 x14_1).f1)) := (blk_cell BK305.out 1).trans rfl; have hcz13_2 : w10.cell? ⟨gb305, 2, none⟩ = some (.slice A304_2 ((rd_T31 l0 x14_1).f2).length c304_2) := (blk_cell BK305.out 2).trans rfl; have hfz13_0 := blk_frozen BK305.out 0; have hfz13_1 := blk_frozen BK305.out 1; have hfz13_2 := blk_frozen BK305.out 2))
            go_loopg [28] k1 (fun kq v28 w' => ∃ (x28_2 : Int) (x307002_2 : List Int) (u307002 : Value), v28 = .int .i64 x28_2 ∧ Aside0 (spec_Moved.l1 kq a1 x5_1 l0 (l0.length : Int) x14_1 ((rd_T31 l0 x14_1).f2) (((rd_T31 l0 x14_1).f2).length : Int) x28_2 ((rd_T31 l0 x14_1).f0) (wrap64 (((rd_T31 l0 x14_1).f1) + a1)) x307002_2 = some r) ∧ Aside0 (kq ≤ k1) ∧ Aside0 (Kd.S k31 31 w' w.heap.size (fun k_ => some k_ ≠ (u307002 : Value).ownBlock ∧ k_ ≠ gb305 ∧ k_ ≠ gb306) u5 x5_1) ∧ Aside0 (Kd.R (Kd.int .i64) 3 w' w.heap.size (fun _ => True) u307002 x307002_2) ∧ Aside0 (w'.heap[gb305]? = some (.cells #[.int .i64 ((rd_T31 l0 x14_1).f0), .int .i64 ((rd_T31 l0 x14_1).f1), (.slice A304_2 ((rd_T31 l0 x14_1).f2).length c304_2)] 31 (0, 0))) ∧ Aside0 (w'.heap[gb306]? = some (.cells #[.int .i64 ((rd_T31 l0 x14_1).f0), .int .i64 (wrap64 (((rd_T31 l0 x14_1).f1) + a1)), u307002] 31 (0, 0))) ∧ Aside0 (Below w.heap.size w w'))
            case atStart => exact ⟨(0), (([] : List Int)), (.slice none 0 0), (by first | rfl | (simp; done) | (simp [*]; done)), H', ⟨Nat.le_refl _⟩, ⟨by (with_reducible repeat (first | apply Kd.S_alloc | apply Kd.S_drewN | apply Kd.S_drew)); exact Kd.S_mono (Kd.S_far (p := ⟨gb306, 2, none⟩) (Kd.S_far (p := ⟨gb306, 1, none⟩) (Kd.S_far (p := ⟨gb306, 0, none⟩) (Kd.S_mono HO_5.out (fun k_ hk => (⟨hk, hk.2⟩ : _ ∧ k_ ≠ gb306))) (fun _ hk => hk.2) (.int .i64 ((rd_T31 l0 x14_1).f0))) (fun _ hk => hk.2) (.int .i64 (wrap64 (((rd_T31 l0 x14_1).f1) + a1)))) (fun _ hk => hk.2) (.slice none 0 0)) (fun _ hk => ⟨(by simp [Value.ownBlock]), ⟨hk.1.1.2, hk.1.2⟩⟩)⟩, ⟨by first | exact Kd.R_nil _ _ _ _ _ | exact Kd.N_nil _ _ _ _ _ | exact Kd.V_nil _ _ _ _ _ | exact Kd.Q_nil _ _ _ _ _ | exact Kd.S_nil _ _ _ _ _⟩, ⟨by (with_reducible repeat (first | refine blk_drewN ?_ _ | refine blk_drew ?_ | refine blk_alloc ?_ _)); refine blk_far ?_ NB305_306.out _; (with_reducible repeat (first | refine blk_drewN ?_ _ | refine blk_drew ?_ | refine blk_alloc ?_ _)); refine blk_far ?_ NB305_306.out _; (with_reducible repeat (first | refine blk_drewN ?_ _ | refine blk_drew ?_ | refine blk_alloc ?_ _)); refine blk_far ?_ NB305_306.out _; (with_reducible repeat (first | refine blk_drewN ?_ _ | refine blk_drew ?_ | refine blk_alloc ?_ _)); exact BK305.out⟩, ⟨by (with_reducible repeat (first | refine blk_drewN ?_ _ | refine blk_drew ?_ | refine blk_alloc ?_ _)); refine blk_put (cs := #[.int .i64 ((rd_T31 l0 x14_1).f0), .int .i64 (wrap64 (((rd_T31 l0 x14_1).f1) + a1)), .slice none 0 0]) ?_ 2 _ rfl; (with_reducible repeat (first | refine blk_drewN ?_ _ | refine blk_drew ?_ | refine blk_alloc ?_ _)); refine blk_put (cs := #[.int .i64 ((rd_T31 l0 x14_1).f0), .int .i64 0, .slice none 0 0]) ?_ 1 _ rfl; (with_reducible repeat (first | refine blk_drewN ?_ _ | refine blk_drew ?_ | refine blk_alloc ?_ _)); refine blk_put (cs := #[.int .i64 0, .int .i64 0, .slice none 0 0]) ?_ 0 _ rfl; (with_reducible repeat (first | refine blk_drewN ?_ _ | refine blk_drew ?_ | refine blk_alloc ?_ _)); exact BK306.out⟩, ⟨by repeat (first | (with_reducible first | exact HB.out | apply below_alloc | apply pw_below_drewN | apply below_drew1 | refine below_set ?_ GE305.out | refine below_set ?_ GE306.out) | exact HB.out)⟩⟩
            case round =>
              clear H'
              try clear c1
              try clear p2
              try clear c3
              try clear p3
              try clear q3
              try clear hx3
              try clear c5
              try clear c5b0
              try clear c6
              try clear c6b0
              try clear p6
              try clear c7
              try clear c7b0
              try clear c11
              try clear hcz12_0
              try clear hcz12_1
              try clear hcz12_2
              try clear hcz13_0
              try clear hcz13_1
              try clear hcz13_2
              try clear hcz9_0
              try clear hcz9_1
              try clear hcz9_2
              try clear hfz12_0
              try clear hfz12_1
              try clear hfz12_2
              try clear hfz13_0
              try clear hfz13_1
              try clear hfz13_2
              try clear hfz9_0
              try clear hfz9_1
              try clear hfz9_2
              try clear hx304_0
              try clear hx304_1
              try clear hx304_2
              try clear p2
              try clear p304
              try clear q304
              obtain ⟨x28_2, x307002_2, u307002, rfl, HA, HK2, HO_5, HO_307002, BK305, BK306, HB⟩ := hrel
              cases gk with
              | zero => exact absurd HA.out (by simp [spec_Moved.l1])
              | succ k2 =>
                have H := HA.out
                clear HA
                simp only [spec_Moved.l1] at H
                by_cases c14 : x28_2 < (((rd_T31 l0 x14_1).f2).length : Int)
                · rw [if_pos c14] at H
                  have c14b0 : decide (x28_2 < (((rd_T31 l0 x14_1).f2).length : Int)) = true := decide_eq_true c14
                  clear c14
                  by_cases c15 : 0 ≤ x28_2
                  · rw [if_pos c15] at H
                    have c15b0 : decide (0 ≤ x28_2) = true := decide_eq_true c15
                    clear c15
                    by_cases c16 : x28_2 < (((rd_T31 l0 x14_1).f2).length : Int)
                    · rw [if_pos c16] at H
                      have c16b0 : decide (x28_2 < (((rd_T31 l0 x14_1).f2).length : Int)) = true := decide_eq_true c16
                      clear c16
                      by_cases c17 : x307002_2.length < 17592186044416
                      · rw [if_pos c17] at H
                        have LMc17 := Aside0.mk c17
                        clear c17
                        obtain ⟨y308, hy308⟩ : ∃ y_ : List Int, y_ = (x307002_2 ++ [wrap64 ((rd ((rd_T31 l0 x14_1).f2) x28_2) + a1)]) := ⟨_, rfl⟩
                        replace H : (spec_Moved.l1 k2 a1 x5_1 l0 (l0.length : Int) x14_1 ((rd_T31 l0 x14_1).f2) (((rd_T31 l0 x14_1).f2).length : Int) (wrap64 (x28_2 + 1)) ((rd_T31 l0 x14_1).f0) (wrap64 (((rd_T31 l0 x14_1).f1) + a1)) y308) = some r := by first | (rw [hy308]; with_reducible exact H) | (have H2_ := (Option.bind_some _ _).symm.trans H; rw [hy308]; with_reducible exact H2_) | (have H2_ := (Option.bind_some _ _).symm.trans H; with_reducible exact H2_) | with_reducible exact H | (rw [hy308]; exact H) | exact H
                        have Ny308 := Aside0.mk hy308
                        clear hy308
                        have H' := Aside0.mk H
                        clear H
                        have p307 : 0 ≤ (x28_2 : Int) := of_decide_eq_true (by first | (with_reducible assumption) | assumption)
                        have q307 : x28_2 < (((rd_T31 l0 x14_1).f2).length : Int) := of_decide_eq_true (by first | (with_reducible assumption) | assumption)
                        obtain ⟨ad307, e307, hx307_0⟩ := Kd.at_int HR304_2.out x28_2 p307 q307
                        cases e307
                        replace hx307_0 := (HB.out.cell (World.block_lt_of_cell? w _ hx307_0)).trans hx307_0
                        replace p307 := eq_true p307
                        replace q307 := eq_true q307
                        have hnb18 := NB306_305.out
                        have hnc18 := NB305_306.out
                        have hcz19_0 : wr.cell? ⟨gb306, 0, none⟩ = some (.int .i64 ((rd_T31 l0 x14_1).f0)) := (blk_cell BK306.out 0).trans rfl
                        have hcz19_1 : wr.cell? ⟨gb306, 1, none⟩ = some (.int .i64 (wrap64 (((rd_T31 l0 x14_1).f1) + a1))) := (blk_cell BK306.out 1).trans rfl
                        have hcz19_2 : wr.cell? ⟨gb306, 2, none⟩ = some (u307002) := (blk_cell BK306.out 2).trans rfl
                        have hfz19_0 := blk_frozen BK306.out 0
                        have hfz19_1 := blk_frozen BK306.out 1
                        have hfz19_2 := blk_frozen BK306.out 2
                        go_wp2_with (first | ((with_reducible refine gate_builtin (b := .append) (xs := #[.tmp 33, .tmp 37]) rfl ?_); at_builtin; refine Kd.R_append (Kd.int .i64) (w0 := w) w.heap.size rfl (.tmp 33) (.tmp 37) 29 3 (.int .i64 0) 8 rfl Try.underlying29 info3 rfl (by decide) (by omega) u307002 x307002_2 (wrap64 ((rd ((rd_T31 l0 x14_1).f2) x28_2) + a1)) [.int .i64 (wrap64 ((rd ((rd_T31 l0 x14_1).f2) x28_2) + a1))] (fun _ => True) (fun _ => False) rfl rfl ?aP (fun _ hk => hk.elim) ?aF ?aO ?aB ?aS ?aL ?_; (case aP => exact rfl); (case aB => exact (by repeat (first | (with_reducible first | exact HB.out | apply below_alloc | apply pw_below_drewN | apply below_drew1 | refine below_set ?_ GE305.out | refine below_set ?_ GE306.out) | exact HB.out))); (case aF => exact (fun _ _ => trivial)); (case aO => exact (by (with_reducible repeat (first | apply Kd.R_alloc | apply Kd.R_drewN | apply Kd.R_drew)); exact HO_307002.out)); (case aS => exact (below_size (by repeat (first | (with_reducible first | exact HB.out | apply below_alloc | apply pw_below_drewN | apply below_drew1 | refine below_set ?_ GE305.out | refine below_set ?_ GE306.out) | exact HB.out)))); (case aL => have := LMc17.out; omega); intro v309 w20 ho hb hg hat; rw [← Ny308.out] at ho; have n0_ := Aside0.mk (Kd.S_after (ok := (fun k_ => k_ ≠ gb305 ∧ k_ ≠ gb306)) (by (with_reducible repeat (first | apply Kd.S_alloc | apply Kd.S_drewN | apply Kd.S_drew)); exact Kd.S_mono HO_5.out (fun _ hk => ⟨⟨hk.2.1, hk.2.2⟩, hk.1⟩)) hg hat); have n1_ := Aside0.mk (blk_grown (g := gb305) (o := .cells #[.int .i64 ((rd_T31 l0 x14_1).f0), .int .i64 ((rd_T31 l0 x14_1).f1), .slice (some ad307) ((rd_T31 l0 x14_1).f2).length c304_2] 31 (0, 0)) (by (with_reducible repeat (first | refine blk_drewN ?_ _ | refine blk_drew ?_ | refine blk_alloc ?_ _)); exact BK305.out) hg (Kd.R_ne HO_307002.out BK305.out (by decide))); have n2_ := Aside0.mk (blk_grown (g := gb306) (o := .cells #[.int .i64 ((rd_T31 l0 x14_1).f0), .int .i64 (wrap64 (((rd_T31 l0 x14_1).f1) + a1)), u307002] 31 (0, 0)) (by (with_reducible repeat (first | refine blk_drewN ?_ _ | refine blk_drew ?_ | refine blk_alloc ?_ _)); exact BK306.out) hg (Kd.R_ne HO_307002.out BK306.out (by decide))); have n3_ := Aside0.mk (hb); have n4_ := Aside0.mk (ho); clear HO_5; clear BK305; clear BK306; clear HB; clear HO_307002; have HO_5 := n0_; have BK305 := n1_; have BK306 := n2_; have HB := n3_; have HO310 := n4_; clear n0_ n1_ n2_ n3_ n4_; clear ho hb hg hat; obtain ⟨Ao21, co21, eo21⟩ := Kd.R_slice HO310.out; subst eo21; have hcz22_0 : w20.cell? ⟨gb306, 0, none⟩ = some (.int .i64 ((rd_T31 l0 x14_1).f0)) := (blk_cell BK306.out 0).trans rfl; have hcz22_1 : w20.cell? ⟨gb306, 1, none⟩ = some (.int .i64 (wrap64 (((rd_T31 l0 x14_1).f1) + a1))) := (blk_cell BK306.out 1).trans rfl; have hcz22_2 : w20.cell? ⟨gb306, 2, none⟩ = some (u307002) := (blk_cell BK306.out 2).trans rfl; have hfz22_0 := blk_frozen BK306.out 0; have hfz22_1 := blk_frozen BK306.out 1; have hfz22_2 := blk_frozen BK306.out 2))
                        go_roundg k2
                        case measure => have := HK1.out; have := HK2.out; omega
                        case rel => exact ⟨(wrap64 (x28_2 + 1)), (y308), (.slice Ao21 y308.length co21), (by first | rfl | (simp; done) | (simp [*]; done)), H', ⟨by have := HK1.out; have := HK2.out; omega⟩, ⟨by (with_reducible repeat (first | apply Kd.S_alloc | apply Kd.S_drewN | apply Kd.S_drew)); exact Kd.S_mono (Kd.S_far (p := ⟨gb306, 2, none⟩) (Kd.S_mono HO_5.out (fun k_ hk => (⟨hk, hk.1.2⟩ : _ ∧ k_ ≠ gb306))) (fun _ hk => hk.2) (.slice Ao21 y308.length co21)) (fun _ hk => ⟨hk.1.2, ⟨hk.1.1.1, hk.1.1.2⟩⟩)⟩, ⟨by (with_reducible repeat (first | apply Kd.R_alloc | apply Kd.R_drewN | apply Kd.R_drew)); exact Kd.R_mono (Kd.R_far (p := ⟨gb306, 2, none⟩) (Kd.R_types HO310.out BK306.out (by decide)) (fun _ hk => hk.2) (.slice Ao21 y308.length co21)) (fun _ hk => trivial)⟩, ⟨by (with_reducible repeat (first | refine blk_drewN ?_ _ | refine blk_drew ?_ | refine blk_alloc ?_ _)); refine blk_far ?_ NB305_306.out _; (with_reducible repeat (first | refine blk_drewN ?_ _ | refine blk_drew ?_ | refine blk_alloc ?_ _)); exact BK305.out⟩, ⟨by (with_reducible repeat (first | refine blk_drewN ?_ _ | refine blk_drew ?_ | refine blk_alloc ?_ _)); refine blk_put (cs := #[.int .i64 ((rd_T31 l0 x14_1).f0), .int .i64 (wrap64 (((rd_T31 l0 x14_1).f1) + a1)), u307002]) ?_ 2 _ rfl; (with_reducible repeat (first | refine blk_drewN ?_ _ | refine blk_drew ?_ | refine blk_alloc ?_ _)); exact BK306.out⟩, ⟨by repeat (first | (with_reducible first | exact HB.out | apply below_alloc | apply pw_below_drewN | apply below_drew1 | refine below_set ?_ GE305.out | refine below_set ?_ GE306.out) | exact HB.out)⟩⟩
                      · rw [if_neg c17] at H
                        exact absurd H (by simp)
                    · rw [if_neg c16] at H
                      exact absurd H (by simp)
                  · rw [if_neg c15] at H
                    exact absurd H (by simp)
                · rw [if_neg c14] at H
                  have c14b0 : decide (x28_2 < (((rd_T31 l0 x14_1).f2).length : Int)) = false := decide_eq_false c14
                  clear c14
                  by_cases c23 : x5_1.length < 3518437208883
                  · rw [if_pos c23] at H
                    have LMc23 := Aside0.mk c23
                    clear c23
                    obtain ⟨y311, hy311⟩ : ∃ y_ : List (S31), y_ = (x5_1 ++ [(⟨((rd_T31 l0 x14_1).f0), (wrap64 (((rd_T31 l0 x14_1).f1) + a1)), x307002_2⟩ : S31)]) := ⟨_, rfl⟩
                    replace H : (spec_Moved.l0 k2 a1 y311 l0 (l0.length : Int) (wrap64 (x14_1 + 1))) = some r := by first | (rw [hy311]; with_reducible exact H) | (have H2_ := (Option.bind_some _ _).symm.trans H; rw [hy311]; with_reducible exact H2_) | (have H2_ := (Option.bind_some _ _).symm.trans H; with_reducible exact H2_) | with_reducible exact H | (rw [hy311]; exact H) | exact H
                    have Ny311 := Aside0.mk hy311
                    clear hy311
                    have H' := Aside0.mk H
                    clear H
                    have hnb24 := NB306_305.out
                    have hnc24 := NB305_306.out
                    have hcz25_0 : wr.cell? ⟨gb306, 0, none⟩ = some (.int .i64 ((rd_T31 l0 x14_1).f0)) := (blk_cell BK306.out 0).trans rfl
                    have hcz25_1 : wr.cell? ⟨gb306, 1, none⟩ = some (.int .i64 (wrap64 (((rd_T31 l0 x14_1).f1) + a1))) := (blk_cell BK306.out 1).trans rfl
                    have hcz25_2 : wr.cell? ⟨gb306, 2, none⟩ = some (u307002) := (blk_cell BK306.out 2).trans rfl
                    have hfz25_0 := blk_frozen BK306.out 0
                    have hfz25_1 := blk_frozen BK306.out 1
                    have hfz25_2 := blk_frozen BK306.out 2
                    obtain ⟨Ao27, co27, eo27⟩ := Kd.R_slice HO_307002.out
                    subst eo27
                    go_wp2_with (first | ((with_reducible refine gate_builtin (b := .append) (xs := #[.tmp 41, .tmp 43]) rfl ?_); at_builtin; refine Kd.S_append k31 (w0 := w) w.heap.size rfl (.tmp 41) (.tmp 43) 22 31 (.agg #[(.int .i64 0), (.int .i64 0), (.slice none 0 0)]) 40 rfl Try.underlying22 info31 rfl (by decide) (by omega) u5 x5_1 (⟨((rd_T31 l0 x14_1).f0), (wrap64 (((rd_T31 l0 x14_1).f1) + a1)), x307002_2⟩ : S31) [.int .i64 ((rd_T31 l0 x14_1).f0), .int .i64 (wrap64 (((rd_T31 l0 x14_1).f1) + a1)), .slice Ao27 x307002_2.length co27] (fun k_ => k_ ≠ gb305 ∧ k_ ≠ gb306) (fun k_ => some k_ = (.slice Ao27 x307002_2.length co27 : Value).ownBlock) rfl rfl ?aP (fun k_ hk_ => ((Kd.R_mono (ok' := fun k_ => ((fun k_ => k_ ≠ gb305 ∧ k_ ≠ gb306)) k_ ∧ some k_ ≠ (u5 : Value).ownBlock) (Kd.R_types (Kd.R_types (Kd.R_apart' (HO_307002.out) (Kd.S_typed HO_5.out) (by decide)) BK305.out (by decide)) BK306.out (by decide)) (fun k_ hk => ⟨⟨hk.1.2, hk.2⟩, hk.1.1.2⟩))).1 k_ hk_.symm) ?aF ?aO ?aB ?aS ?aL ?_; (case aP => exact k31_mkM _ _ _ (⟨((rd_T31 l0 x14_1).f0), (wrap64 (((rd_T31 l0 x14_1).f1) + a1)), x307002_2⟩ : S31) (Kd.R_mono (Kd.R_tight rfl (Kd.R_mono (ok' := fun k_ => ((fun k_ => k_ ≠ gb305 ∧ k_ ≠ gb306)) k_ ∧ some k_ ≠ (u5 : Value).ownBlock) (Kd.R_types (Kd.R_types (Kd.R_apart' (HO_307002.out) (Kd.S_typed HO_5.out) (by decide)) BK305.out (by decide)) BK306.out (by decide)) (fun k_ hk => ⟨⟨hk.1.2, hk.2⟩, hk.1.1.2⟩))) (fun _ h_ => h_))); (case aB => exact (by repeat (first | (with_reducible first | exact HB.out | apply below_alloc | apply pw_below_drewN | apply below_drew1 | refine below_set ?_ GE305.out | refine below_set ?_ GE306.out) | exact HB.out))); (case aF => exact (fun k_ hk => ⟨Kd.freshB (g := gb305) (o := .cells #[.int .i64 ((rd_T31 l0 x14_1).f0), .int .i64 ((rd_T31 l0 x14_1).f1), .slice A304_2 ((rd_T31 l0 x14_1).f2).length c304_2] 31 (0, 0)) (by (with_reducible repeat (first | refine blk_drewN ?_ _ | refine blk_drew ?_ | refine blk_alloc ?_ _)); exact BK305.out) k_ hk, Kd.freshB (g := gb306) (o := .cells #[.int .i64 ((rd_T31 l0 x14_1).f0), .int .i64 (wrap64 (((rd_T31 l0 x14_1).f1) + a1)), .slice Ao27 x307002_2.length co27] 31 (0, 0)) (by (with_reducible repeat (first | refine blk_drewN ?_ _ | refine blk_drew ?_ | refine blk_alloc ?_ _)); exact BK306.out) k_ hk⟩)); (case aO => exact (by (with_reducible repeat (first | apply Kd.S_alloc | apply Kd.S_drewN | apply Kd.S_drew)); exact Kd.S_mono HO_5.out (fun k_ hk => ⟨⟨hk.2.1, hk.2.2⟩, fun e_ => hk.1 e_⟩))); (case aS => exact (below_size (by repeat (first | (with_reducible first | exact HB.out | apply below_alloc | apply pw_below_drewN | apply below_drew1 | refine below_set ?_ GE305.out | refine below_set ?_ GE306.out) | exact HB.out)))); (case aL => have := LMc23.out; omega); intro v312 w26 ho hb hg hat; rw [← Ny311.out] at ho; have n0_ := Aside0.mk (blk_grown (g := gb305) (o := .cells #[.int .i64 ((rd_T31 l0 x14_1).f0), .int .i64 ((rd_T31 l0 x14_1).f1), .slice A304_2 ((rd_T31 l0 x14_1).f2).length c304_2] 31 (0, 0)) (by (with_reducible repeat (first | refine blk_drewN ?_ _ | refine blk_drew ?_ | refine blk_alloc ?_ _)); exact BK305.out) hg (Kd.S_away HO_5.out (fun _ hk => hk.2.1))); have n1_ := Aside0.mk (blk_grown (g := gb306) (o := .cells #[.int .i64 ((rd_T31 l0 x14_1).f0), .int .i64 (wrap64 (((rd_T31 l0 x14_1).f1) + a1)), .slice Ao27 x307002_2.length co27] 31 (0, 0)) (by (with_reducible repeat (first | refine blk_drewN ?_ _ | refine blk_drew ?_ | refine blk_alloc ?_ _)); exact BK306.out) hg (Kd.S_away HO_5.out (fun _ hk => hk.2.2))); have n2_ := Aside0.mk (hb); have n3_ := Aside0.mk (ho); clear BK305; clear BK306; clear HB; clear HO_5; clear HO_307002; have BK305 := n0_; have BK306 := n1_; have HB := n2_; have HO313 := n3_; clear n0_ n1_ n2_ n3_; clear ho hb hg hat))
                    go_roundg k2
                    case measure => have := HK1.out; have := HK2.out; omega
                    case rel => exact ⟨(y311), (wrap64 (x14_1 + 1)), (by first | rfl | (simp; done) | (simp [*]; done)), H', ⟨by have := HK1.out; have := HK2.out; omega⟩, ⟨by (with_reducible repeat (first | apply Kd.S_alloc | apply Kd.S_drewN | apply Kd.S_drew)); exact Kd.S_mono HO313.out (fun _ hk => trivial)⟩, ⟨by repeat (first | (with_reducible first | exact HB.out | apply below_alloc | apply pw_below_drewN | apply below_drew1 | refine below_set ?_ GE305.out | refine below_set ?_ GE306.out) | exact HB.out)⟩⟩
                  · rw [if_neg c23] at H
                    exact absurd H (by simp)
          · rw [if_neg c7] at H
            exact absurd H (by simp)
        · rw [if_neg c6] at H
          exact absurd H (by simp)
      · rw [if_neg c5] at H
        have c5b0 : decide (x14_1 < (l0.length : Int)) = false := decide_eq_false c5
        clear c5
        obtain rfl := Option.some.inj H
        go_wp2
        go_ret
        exact ⟨_, by first | rfl | (simp [errW_none, errW_some] <;> rfl) | (simp [*, errW_none, errW_some] <;> rfl), by (with_reducible repeat (first | apply Kd.S_alloc | apply Kd.S_drewN | apply Kd.S_drew)); exact HO_5.out, by repeat (first | (with_reducible first | exact HB.out | apply below_alloc | apply pw_below_drewN | apply below_drew1) | exact HB.out)⟩

end Go.Proofs.Ytimakagmhikhfaa.M
