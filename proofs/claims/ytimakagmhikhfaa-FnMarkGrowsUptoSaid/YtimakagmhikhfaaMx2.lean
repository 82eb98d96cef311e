-- made by stubprint.py
import Derived.Test.YtimakagmhikhfaaMx0
import Derived.Test.YtimakagmhikhfaaMx1
namespace Go.Proofs.Ytimakagmhikhfaa.M
open Go.RowKit Go.Proofs.YtimakagmhikhfaaW.PrintWords Go.Proofs.YtimakagmhikhfaaW.PrintLast Go.Proofs.YtimakagmhikhfaaW.PrintMore
attribute [local go_sem] max2_int min2_int max_two min_two max_three min_three max_four min_four   -- for this text's walks alone
set_option linter.unusedVariables false
set_option linter.unusedSimpArgs false

/-! ### laws_FnMarkGrows: function 3 -/
mutual
def laws_FnMarkGrows.l0 : Nat → List (S31) → List (S34) → Int → Int → Int → Option (Bool)
  | 0, _, _, _, _, _ => none
  | k + 1, x0, x5, x6, x30, x31 => if x31 < x30 then (if 0 ≤ x31 then (if x31 < (x0.length : Int) then (if ((rd_T31 x0 x31).f0) = 0 then (laws_FnMarkGrows.j1 k x0 x5 (mx x6 ((rd_T31 x0 x31).f1)) x31 x30 x31) else (laws_FnMarkGrows.j1 k x0 x5 x6 x31 x30 x31)) else (none)) else (none)) else ((laws_marksWork.f).bind fun t143 => (some t143))
def laws_FnMarkGrows.j1 : Nat → List (S31) → List (S34) → Int → Int → Int → Int → Option (Bool)
  | 0, _, _, _, _, _, _ => none
  | k + 1, x0, x5, x6, x7, x30, x31 => if 0 ≤ x7 then (if x7 < (x0.length : Int) then (laws_FnMarkGrows.l1 k x0 x5 x6 x7 x30 x31 ((rd_T31 x0 x7).f2) (((rd_T31 x0 x7).f2).length : Int) 0) else (none)) else (none)
def laws_FnMarkGrows.l1 : Nat → List (S31) → List (S34) → Int → Int → Int → Int → List Int → Int → Int → Option (Bool)
  | 0, _, _, _, _, _, _, _, _, _ => none
  | k + 1, x0, x5, x6, x7, x30, x31, x51, x52, x53 => if x53 < x52 then (if 0 ≤ x53 then (if x53 < (x51.length : Int) then (laws_FnMarkGrows.l1 k x0 x5 (mx x6 (rd x51 x53)) x7 x30 x31 x51 x52 (wrap64 (x53 + 1))) else (none)) else (none)) else (if 0 ≤ x7 then (if x7 < (x0.length : Int) then (if ((rd_T31 x0 x7).f0) = 4 then (laws_FnMarkGrows.l0 k x0 x5 ((rd_T31 x0 x7).f1) x30 (wrap64 (x31 + 1))) else (if x7 < (x5.length : Int) then (if ((rd_T34 x5 x7).f0) > x6 then (laws_FnMarkGrows.j3 k x0 x5 x6 x7 x30 x31 true) else (if x7 > 0 then (if 0 ≤ (wrap64 (x7 - 1)) then (if (wrap64 (x7 - 1)) < (x5.length : Int) then (laws_FnMarkGrows.j3 k x0 x5 x6 x7 x30 x31 (decide (((rd_T34 x5 x7).f0) < ((rd_T34 x5 (wrap64 (x7 - 1))).f0)))) else (none)) else (none)) else (laws_FnMarkGrows.j3 k x0 x5 x6 x7 x30 x31 false))) else (none))) else (none)) else (none))
def laws_FnMarkGrows.j3 : Nat → List (S31) → List (S34) → Int → Int → Int → Int → Bool → Option (Bool)
  | 0, _, _, _, _, _, _, _ => none
  | k + 1, x0, x5, x6, x7, x30, x31, x96 => if x96 = true then (some false) else (laws_FnMarkGrows.l2 k x0 x5 x6 x7 0 x30 x31)
def laws_FnMarkGrows.l2 : Nat → List (S31) → List (S34) → Int → Int → Int → Int → Int → Option (Bool)
  | 0, _, _, _, _, _, _, _ => none
  | k + 1, x0, x5, x6, x7, x10, x30, x31 => if x7 > 0 then (if 0 ≤ (wrap64 (x7 - 1)) then (if (wrap64 (x7 - 1)) < (x5.length : Int) then (laws_FnMarkGrows.j5 k x0 x5 x6 x7 x10 x30 x31 (decide (x10 < (((rd_T34 x5 (wrap64 (x7 - 1))).f4).length : Int)))) else (none)) else (none)) else (laws_FnMarkGrows.j5 k x0 x5 x6 x7 x10 x30 x31 false)
def laws_FnMarkGrows.j5 : Nat → List (S31) → List (S34) → Int → Int → Int → Int → Int → Bool → Option (Bool)
  | 0, _, _, _, _, _, _, _, _ => none
  | k + 1, x0, x5, x6, x7, x10, x30, x31, x109 => if x109 = true then (if 0 ≤ (wrap64 (x7 - 1)) then (if (wrap64 (x7 - 1)) < (x5.length : Int) then (if 0 ≤ x10 then (if x10 < (((rd_T34 x5 (wrap64 (x7 - 1))).f4).length : Int) then (if rdOf false ((rd_T34 x5 (wrap64 (x7 - 1))).f4) x10 = true then (if 0 ≤ x7 then (if x7 < (x5.length : Int) then (if (((rd_T34 x5 x7).f4).length : Int) ≤ x10 then (some false) else (if x10 < (((rd_T34 x5 x7).f4).length : Int) then (if (rdOf false ((rd_T34 x5 x7).f4) x10 = true) then (laws_FnMarkGrows.l2 k x0 x5 x6 x7 (wrap64 (x10 + 1)) x30 x31) else (some false)) else (none))) else (none)) else (none)) else (laws_FnMarkGrows.l2 k x0 x5 x6 x7 (wrap64 (x10 + 1)) x30 x31)) else (none)) else (none)) else (none)) else (none)) else (laws_FnMarkGrows.l0 k x0 x5 x6 x30 (wrap64 (x31 + 1)))
end
def laws_FnMarkGrows.f (k : Nat) (l0 : List (S31)) : Option (Bool) := (laws_zzFits1.f k l0).bind fun t134 => (if t134 = true then ((spec_Marks.f l0).bind fun bt135 => (if bt135.2 = true then ((impl_RunMarks.f l0).bind fun t140 => (if (t140.length : Int) = (l0.length : Int) then (laws_FnMarkGrows.l0 k l0 t140 0 (t140.length : Int) 0) else (some false))) else ((laws_marksWork.f).bind fun t139 => (some t139)))) else (some true))
theorem laws_FnMarkGrows.mono_l : ∀ k, (∀ y0 y1 y2 y3 y4, LeO (laws_FnMarkGrows.l0 k y0 y1 y2 y3 y4) (laws_FnMarkGrows.l0 (k + 1) y0 y1 y2 y3 y4)) ∧ (∀ y0 y1 y2 y3 y4 y5, LeO (laws_FnMarkGrows.j1 k y0 y1 y2 y3 y4 y5) (laws_FnMarkGrows.j1 (k + 1) y0 y1 y2 y3 y4 y5)) ∧ (∀ y0 y1 y2 y3 y4 y5 y6 y7 y8, LeO (laws_FnMarkGrows.l1 k y0 y1 y2 y3 y4 y5 y6 y7 y8) (laws_FnMarkGrows.l1 (k + 1) y0 y1 y2 y3 y4 y5 y6 y7 y8)) ∧ (∀ y0 y1 y2 y3 y4 y5 y6, LeO (laws_FnMarkGrows.j3 k y0 y1 y2 y3 y4 y5 y6) (laws_FnMarkGrows.j3 (k + 1) y0 y1 y2 y3 y4 y5 y6)) ∧ (∀ y0 y1 y2 y3 y4 y5 y6, LeO (laws_FnMarkGrows.l2 k y0 y1 y2 y3 y4 y5 y6) (laws_FnMarkGrows.l2 (k + 1) y0 y1 y2 y3 y4 y5 y6)) ∧ (∀ y0 y1 y2 y3 y4 y5 y6 y7, LeO (laws_FnMarkGrows.j5 k y0 y1 y2 y3 y4 y5 y6 y7) (laws_FnMarkGrows.j5 (k + 1) y0 y1 y2 y3 y4 y5 y6 y7))
  | 0 => ⟨fun _ _ _ _ _ r h => by simp [laws_FnMarkGrows.l0] at h, fun _ _ _ _ _ _ r h => by simp [laws_FnMarkGrows.j1] at h, fun _ _ _ _ _ _ _ _ _ r h => by simp [laws_FnMarkGrows.l1] at h, fun _ _ _ _ _ _ _ r h => by simp [laws_FnMarkGrows.j3] at h, fun _ _ _ _ _ _ _ r h => by simp [laws_FnMarkGrows.l2] at h, fun _ _ _ _ _ _ _ _ r h => by simp [laws_FnMarkGrows.j5] at h⟩
  | k + 1 => by
    obtain ⟨ih0, ih1, ih2, ih3, ih4, ih5⟩ := laws_FnMarkGrows.mono_l k
    refine ⟨?_, ?_, ?_, ?_, ?_, ?_⟩
    · intro y0 y1 y2 y3 y4
      unfold laws_FnMarkGrows.l0
      repeat' first
      | (with_reducible exact ih0 _ _ _ _ _)
      | (with_reducible exact ih1 _ _ _ _ _ _)
      | (with_reducible exact ih2 _ _ _ _ _ _ _ _ _)
      | (with_reducible exact ih3 _ _ _ _ _ _ _)
      | (with_reducible exact ih4 _ _ _ _ _ _ _)
      | (with_reducible exact ih5 _ _ _ _ _ _ _ _)
      | (with_reducible exact laws_zzFits1.mono _ _)
      | (with_reducible exact LeO.refl _)
      | (with_reducible exact LeO.none _)
      | (with_reducible refine LeO.ite ?_ ?_)
      | (with_reducible refine LeO.bind ?_ (fun _ => ?_))
      | exact ih0 _ _ _ _ _
      | exact ih1 _ _ _ _ _ _
      | exact ih2 _ _ _ _ _ _ _ _ _
      | exact ih3 _ _ _ _ _ _ _
      | exact ih4 _ _ _ _ _ _ _
      | exact ih5 _ _ _ _ _ _ _ _
      | exact laws_zzFits1.mono _ _
      | exact LeO.none _
      | refine LeO.ite ?_ ?_
      | refine LeO.bind ?_ (fun _ => ?_)
    · intro y0 y1 y2 y3 y4 y5
      unfold laws_FnMarkGrows.j1
      repeat' first
      | (with_reducible exact ih0 _ _ _ _ _)
      | (with_reducible exact ih1 _ _ _ _ _ _)
      | (with_reducible exact ih2 _ _ _ _ _ _ _ _ _)
      | (with_reducible exact ih3 _ _ _ _ _ _ _)
      | (with_reducible exact ih4 _ _ _ _ _ _ _)
      | (with_reducible exact ih5 _ _ _ _ _ _ _ _)
      | (with_reducible exact laws_zzFits1.mono _ _)
      | (with_reducible exact LeO.refl _)
      | (with_reducible exact LeO.none _)
      | (with_reducible refine LeO.ite ?_ ?_)
      | (with_reducible refine LeO.bind ?_ (fun _ => ?_))
      | exact ih0 _ _ _ _ _
      | exact ih1 _ _ _ _ _ _
      | exact ih2 _ _ _ _ _ _ _ _ _
      | exact ih3 _ _ _ _ _ _ _
      | exact ih4 _ _ _ _ _ _ _
      | exact ih5 _ _ _ _ _ _ _ _
      | exact laws_zzFits1.mono _ _
      | exact LeO.none _
      | refine LeO.ite ?_ ?_
      | refine LeO.bind ?_ (fun _ => ?_)
    · intro y0 y1 y2 y3 y4 y5 y6 y7 y8
      unfold laws_FnMarkGrows.l1
      repeat' first
      | (with_reducible exact ih0 _ _ _ _ _)
      | (with_reducible exact ih1 _ _ _ _ _ _)
      | (with_reducible exact ih2 _ _ _ _ _ _ _ _ _)
      | (with_reducible exact ih3 _ _ _ _ _ _ _)
      | (with_reducible exact ih4 _ _ _ _ _ _ _)
      | (with_reducible exact ih5 _ _ _ _ _ _ _ _)
      | (with_reducible exact laws_zzFits1.mono _ _)
      | (with_reducible exact LeO.refl _)
      | (with_reducible exact LeO.none _)
      | (with_reducible refine LeO.ite ?_ ?_)
      | (with_reducible refine LeO.bind ?_ (fun _ => ?_))
      | exact ih0 _ _ _ _ _
      | exact ih1 _ _ _ _ _ _
      | exact ih2 _ _ _ _ _ _ _ _ _
      | exact ih3 _ _ _ _ _ _ _
      | exact ih4 _ _ _ _ _ _ _
      | exact ih5 _ _ _ _ _ _ _ _
      | exact laws_zzFits1.mono _ _
      | exact LeO.none _
      | refine LeO.ite ?_ ?_
      | refine LeO.bind ?_ (fun _ => ?_)
    · intro y0 y1 y2 y3 y4 y5 y6
      unfold laws_FnMarkGrows.j3
      repeat' first
      | (with_reducible exact ih0 _ _ _ _ _)
      | (with_reducible exact ih1 _ _ _ _ _ _)
      | (with_reducible exact ih2 _ _ _ _ _ _ _ _ _)
      | (with_reducible exact ih3 _ _ _ _ _ _ _)
      | (with_reducible exact ih4 _ _ _ _ _ _ _)
      | (with_reducible exact ih5 _ _ _ _ _ _ _ _)
      | (with_reducible exact laws_zzFits1.mono _ _)
      | (with_reducible exact LeO.refl _)
      | (with_reducible exact LeO.none _)
      | (with_reducible refine LeO.ite ?_ ?_)
      | (with_reducible refine LeO.bind ?_ (fun _ => ?_))
      | exact ih0 _ _ _ _ _
      | exact ih1 _ _ _ _ _ _
      | exact ih2 _ _ _ _ _ _ _ _ _
      | exact ih3 _ _ _ _ _ _ _
      | exact ih4 _ _ _ _ _ _ _
      | exact ih5 _ _ _ _ _ _ _ _
      | exact laws_zzFits1.mono _ _
      | exact LeO.none _
      | refine LeO.ite ?_ ?_
      | refine LeO.bind ?_ (fun _ => ?_)
    · intro y0 y1 y2 y3 y4 y5 y6
      unfold laws_FnMarkGrows.l2
      repeat' first
      | (with_reducible exact ih0 _ _ _ _ _)
      | (with_reducible exact ih1 _ _ _ _ _ _)
      | (with_reducible exact ih2 _ _ _ _ _ _ _ _ _)
      | (with_reducible exact ih3 _ _ _ _ _ _ _)
      | (with_reducible exact ih4 _ _ _ _ _ _ _)
      | (with_reducible exact ih5 _ _ _ _ _ _ _ _)
      | (with_reducible exact laws_zzFits1.mono _ _)
      | (with_reducible exact LeO.refl _)
      | (with_reducible exact LeO.none _)
      | (with_reducible refine LeO.ite ?_ ?_)
      | (with_reducible refine LeO.bind ?_ (fun _ => ?_))
      | exact ih0 _ _ _ _ _
      | exact ih1 _ _ _ _ _ _
      | exact ih2 _ _ _ _ _ _ _ _ _
      | exact ih3 _ _ _ _ _ _ _
      | exact ih4 _ _ _ _ _ _ _
      | exact ih5 _ _ _ _ _ _ _ _
      | exact laws_zzFits1.mono _ _
      | exact LeO.none _
      | refine LeO.ite ?_ ?_
      | refine LeO.bind ?_ (fun _ => ?_)
    · intro y0 y1 y2 y3 y4 y5 y6 y7
      unfold laws_FnMarkGrows.j5
      repeat' first
      | (with_reducible exact ih0 _ _ _ _ _)
      | (with_reducible exact ih1 _ _ _ _ _ _)
      | (with_reducible exact ih2 _ _ _ _ _ _ _ _ _)
      | (with_reducible exact ih3 _ _ _ _ _ _ _)
      | (with_reducible exact ih4 _ _ _ _ _ _ _)
      | (with_reducible exact ih5 _ _ _ _ _ _ _ _)
      | (with_reducible exact laws_zzFits1.mono _ _)
      | (with_reducible exact LeO.refl _)
      | (with_reducible exact LeO.none _)
      | (with_reducible refine LeO.ite ?_ ?_)
      | (with_reducible refine LeO.bind ?_ (fun _ => ?_))
      | exact ih0 _ _ _ _ _
      | exact ih1 _ _ _ _ _ _
      | exact ih2 _ _ _ _ _ _ _ _ _
      | exact ih3 _ _ _ _ _ _ _
      | exact ih4 _ _ _ _ _ _ _
      | exact ih5 _ _ _ _ _ _ _ _
      | exact laws_zzFits1.mono _ _
      | exact LeO.none _
      | refine LeO.ite ?_ ?_
      | refine LeO.bind ?_ (fun _ => ?_)
theorem laws_FnMarkGrows.mono : ∀ a0 k, LeO (laws_FnMarkGrows.f k a0) (laws_FnMarkGrows.f (k + 1) a0) := by
  intro a0 k
  obtain ⟨ih0, ih1, ih2, ih3, ih4, ih5⟩ := laws_FnMarkGrows.mono_l k
  unfold laws_FnMarkGrows.f
  repeat' first
      | (with_reducible exact ih0 _ _ _ _ _)
      | (with_reducible exact ih1 _ _ _ _ _ _)
      | (with_reducible exact ih2 _ _ _ _ _ _ _ _ _)
      | (with_reducible exact ih3 _ _ _ _ _ _ _)
      | (with_reducible exact ih4 _ _ _ _ _ _ _)
      | (with_reducible exact ih5 _ _ _ _ _ _ _ _)
      | (with_reducible exact laws_zzFits1.mono _ _)
      | (with_reducible exact LeO.refl _)
      | (with_reducible exact LeO.none _)
      | (with_reducible refine LeO.ite ?_ ?_)
      | (with_reducible refine LeO.bind ?_ (fun _ => ?_))
      | exact ih0 _ _ _ _ _
      | exact ih1 _ _ _ _ _ _
      | exact ih2 _ _ _ _ _ _ _ _ _
      | exact ih3 _ _ _ _ _ _ _
      | exact ih4 _ _ _ _ _ _ _
      | exact ih5 _ _ _ _ _ _ _ _
      | exact laws_zzFits1.mono _ _
      | exact LeO.none _
      | refine LeO.ite ?_ ?_
      | refine LeO.bind ?_ (fun _ => ?_)
set_option maxHeartbeats 8000000 in
set_option maxRecDepth 100000 in
theorem laws_FnMarkGrows.calls (k : Nat) (A0 : Option Addr) (c0 : Nat) (l0 : List (S31)) (r : Bool) (w : World) (hr0 : Kd.C k31 w A0 l0.length l0) (hc0 : l0.length ≤ c0) (h : laws_FnMarkGrows.f k l0 = some r) :
    Calls Try.prog 3 #[.slice A0 l0.length c0] w fun e w' => e = .returned (.bool r) ∧ Below w.heap.size w w' := by
  have HR0 := Aside0.mk hr0
  have HC0 := Aside0.mk hc0
  clear hr0 hc0
  have HB := Aside0.mk (Below.refl w.heap.size w)
  have H : ((laws_zzFits1.f k l0).bind fun t134 => (if t134 = true then ((spec_Marks.f l0).bind fun bt135 => (if bt135.2 = true then ((impl_RunMarks.f l0).bind fun t140 => (if (t140.length : Int) = (l0.length : Int) then (laws_FnMarkGrows.l0 k l0 t140 0 (t140.length : Int) 0) else (some false))) else ((laws_marksWork.f).bind fun t139 => (some t139)))) else (some true))) = some r := h
  clear h
  replace H := Option.bind_eq_some_iff.mp H
  obtain ⟨t134, A20, H⟩ := H
  replace H : (if t134 = true then ((spec_Marks.f l0).bind fun bt135 => (if bt135.2 = true then ((impl_RunMarks.f l0).bind fun t140 => (if (t140.length : Int) = (l0.length : Int) then (laws_FnMarkGrows.l0 k l0 t140 0 (t140.length : Int) 0) else (some false))) else ((laws_marksWork.f).bind fun t139 => (some t139)))) else (some true)) = some r := H
  have A2 := Aside0.mk A20
  clear A20
  by_cases c3 : t134 = true
  · subst c3
    have H1 : ((spec_Marks.f l0).bind fun bt135 => (if bt135.2 = true then ((impl_RunMarks.f l0).bind fun t140 => (if (t140.length : Int) = (l0.length : Int) then (laws_FnMarkGrows.l0 k l0 t140 0 (t140.length : Int) 0) else (some false))) else ((laws_marksWork.f).bind fun t139 => (some t139)))) = some r := by rw [if_pos rfl] at H; exact H
    clear H
    have H := H1
    clear H1
    replace H := Option.bind_eq_some_iff.mp H
    obtain ⟨⟨t135, t136⟩, A40, H⟩ := H
    replace H : (if t136 = true then ((impl_RunMarks.f l0).bind fun t140 => (if (t140.length : Int) = (l0.length : Int) then (laws_FnMarkGrows.l0 k l0 t140 0 (t140.length : Int) 0) else (some false))) else ((laws_marksWork.f).bind fun t139 => (some t139))) = some r := H
    have A4 := Aside0.mk A40
    clear A40
    by_cases c5 : t136 = true
    · subst c5
      have H1 : ((impl_RunMarks.f l0).bind fun t140 => (if (t140.length : Int) = (l0.length : Int) then (laws_FnMarkGrows.l0 k l0 t140 0 (t140.length : Int) 0) else (some false))) = some r := by rw [if_pos rfl] at H; exact H
      clear H
      have H := H1
      clear H1
      replace H := Option.bind_eq_some_iff.mp H
      obtain ⟨t140, A60, H⟩ := H
      replace H : (if (t140.length : Int) = (l0.length : Int) then (laws_FnMarkGrows.l0 k l0 t140 0 (t140.length : Int) 0) else (some false)) = some r := H
      have A6 := Aside0.mk A60
      clear A60
      by_cases c7 : (t140.length : Int) = (l0.length : Int)
      · rw [if_pos c7] at H
        have c7b0 : ((t140.length : Int) == (l0.length : Int)) = true := beq_iff_eq.mpr c7
        have c7b1 : ((t140.length : Int) != (l0.length : Int)) = false := bne_eq_false_iff_eq.mpr c7
        have c7b2 : (t140.length == l0.length) = true := by first | simpa using c7 | (simp at c7 ⊢; omega)
        clear c7
        have H' := Aside0.mk H
        clear H
        go_enter Try.func3, Try.ntmps3
        go_wp2_with (first | (go_at_call 11; (with_reducible refine (laws_zzFits1.calls k _ _ l0 true _ ?side1 ?side2 A2.out).mono ?_); (case side1 => repeat (first | exact HR0.out | (with_reducible refine Kd.C_alloc ?_ _) | (with_reducible refine Kd.C_drewN ?_ _) | (with_reducible refine Kd.C_drew ?_))); (case side2 => exact HC0.out); rintro e w8 ⟨rfl, hb⟩; have n0_ := Aside0.mk (below_step (by repeat (first | (with_reducible first | exact HB.out | apply below_alloc | apply pw_below_drewN | apply below_drew1) | exact HB.out)) hb); clear HB; have HB := n0_; clear n0_; (try clear hb); (try clear hb2); (try clear hk); (try clear hi)) | (go_at_call 12; (with_reducible refine (spec_Marks.calls _ _ l0 t135 true _ ?side1 ?side2 A4.out).mono ?_); (case side1 => repeat (first | exact (Kd.C_below HR0.out HB.out) | (with_reducible refine Kd.C_alloc ?_ _) | (with_reducible refine Kd.C_drewN ?_ _) | (with_reducible refine Kd.C_drew ?_))); (case side2 => exact HC0.out); rintro e w9 ⟨v137, rfl, ho0, hb⟩; have n0_ := Aside0.mk (Kd.S_lower ho0 (below_size (by repeat (first | (with_reducible first | exact HB.out | apply below_alloc | apply pw_below_drewN | apply below_drew1) | exact HB.out)))); have n1_ := Aside0.mk (below_step (by repeat (first | (with_reducible first | exact HB.out | apply below_alloc | apply pw_below_drewN | apply below_drew1) | exact HB.out)) hb); clear HB; have HO138 := n0_; have HB := n1_; clear n0_ n1_; (try clear hb); (try clear hb2); (try clear hk); (try clear hi); (try clear ho0)) | (go_at_call 14; (with_reducible refine (impl_RunMarks.calls _ _ l0 t140 _ ?side1 ?side2 A6.out).mono ?_); (case side1 => repeat (first | exact (Kd.C_below HR0.out HB.out) | (with_reducible refine Kd.C_alloc ?_ _) | (with_reducible refine Kd.C_drewN ?_ _) | (with_reducible refine Kd.C_drew ?_))); (case side2 => exact HC0.out); rintro e w10 ⟨v141, rfl, ho0, hb⟩; have n0_ := Aside0.mk (Kd.S_elder' (by (with_reducible repeat (first | apply Kd.S_alloc | apply Kd.S_drewN | apply Kd.S_drew)); exact HO138.out) (Kd.S_base ho0) hb); have n1_ := Aside0.mk (Kd.S_lower (Kd.S_new' ho0 (Kd.S_lt (by (with_reducible repeat (first | apply Kd.S_alloc | apply Kd.S_drewN | apply Kd.S_drew)); exact HO138.out))) (below_size (by repeat (first | (with_reducible first | exact HB.out | apply below_alloc | apply pw_below_drewN | apply below_drew1) | exact HB.out)))); have n2_ := Aside0.mk (below_step (by repeat (first | (with_reducible first | exact HB.out | apply below_alloc | apply pw_below_drewN | apply below_drew1) | exact HB.out)) hb); clear HO138; clear HB; have HO138 := n0_; have HO142 := n1_; have HB := n2_; clear n0_ n1_ n2_; (try clear hb); (try clear hb2); (try clear hk); (try clear hi); (try clear ho0); obtain ⟨Ao11, co11, eo11⟩ := Kd.S_slice HO142.out; subst eo11))
        repeat (go_quiet (first | (go_at_call 11; (with_reducible refine (laws_zzFits1.calls k _ _ l0 true _ ?side1 ?side2 A2.out).mono ?_); (case side1 => repeat (first | exact HR0.out | (with_reducible refine Kd.C_alloc ?_ _) | (with_reducible refine Kd.C_drewN ?_ _) | (with_reducible refine Kd.C_drew ?_))); (case side2 => exact HC0.out); rintro e w8 ⟨rfl, hb⟩; have n0_ := Aside0.mk (below_step (by repeat (first | (with_reducible first | exact HB.out | apply below_alloc | apply pw_below_drewN | apply below_drew1) | exact HB.out)) hb); clear HB; have HB := n0_; clear n0_; (try clear hb); (try clear hb2); (try clear hk); (try clear hi)) | (go_at_call 12; (with_reducible refine (spec_Marks.calls _ _ l0 t135 true _ ?side1 ?side2 A4.out).mono ?_); (case side1 => repeat (first | exact (Kd.C_below HR0.out HB.out) | (with_reducible refine Kd.C_alloc ?_ _) | (with_reducible refine Kd.C_drewN ?_ _) | (with_reducible refine Kd.C_drew ?_))); (case side2 => exact HC0.out); rintro e w9 ⟨v137, rfl, ho0, hb⟩; have n0_ := Aside0.mk (Kd.S_lower ho0 (below_size (by repeat (first | (with_reducible first | exact HB.out | apply below_alloc | apply pw_below_drewN | apply below_drew1) | exact HB.out)))); have n1_ := Aside0.mk (below_step (by repeat (first | (with_reducible first | exact HB.out | apply below_alloc | apply pw_below_drewN | apply below_drew1) | exact HB.out)) hb); clear HB; have HO138 := n0_; have HB := n1_; clear n0_ n1_; (try clear hb); (try clear hb2); (try clear hk); (try clear hi); (try clear ho0)) | (go_at_call 14; (with_reducible refine (impl_RunMarks.calls _ _ l0 t140 _ ?side1 ?side2 A6.out).mono ?_); (case side1 => repeat (first | exact (Kd.C_below HR0.out HB.out) | (with_reducible refine Kd.C_alloc ?_ _) | (with_reducible refine Kd.C_drewN ?_ _) | (with_reducible refine Kd.C_drew ?_))); (case side2 => exact HC0.out); rintro e w10 ⟨v141, rfl, ho0, hb⟩; have n0_ := Aside0.mk (Kd.S_elder' (by (with_reducible repeat (first | apply Kd.S_alloc | apply Kd.S_drewN | apply Kd.S_drew)); exact HO138.out) (Kd.S_base ho0) hb); have n1_ := Aside0.mk (Kd.S_lower (Kd.S_new' ho0 (Kd.S_lt (by (with_reducible repeat (first | apply Kd.S_alloc | apply Kd.S_drewN | apply Kd.S_drew)); exact HO138.out))) (below_size (by repeat (first | (with_reducible first | exact HB.out | apply below_alloc | apply pw_below_drewN | apply below_drew1) | exact HB.out)))); have n2_ := Aside0.mk (below_step (by repeat (first | (with_reducible first | exact HB.out | apply below_alloc | apply pw_below_drewN | apply below_drew1) | exact HB.out)) hb); clear HO138; clear HB; have HO138 := n0_; have HO142 := n1_; have HB := n2_; clear n0_ n1_ n2_; (try clear hb); (try clear hb2); (try clear hk); (try clear hi); (try clear ho0); obtain ⟨Ao11, co11, eo11⟩ := Kd.S_slice HO142.out; subst eo11)); try go_wp2_with (first | (go_at_call 11; (with_reducible refine (laws_zzFits1.calls k _ _ l0 true _ ?side1 ?side2 A2.out).mono ?_); (case side1 => repeat (first | exact HR0.out | (with_reducible refine Kd.C_alloc ?_ _) | (with_reducible refine Kd.C_drewN ?_ _) | (with_reducible refine Kd.C_drew ?_))); (case side2 => exact HC0.out); rintro e w8 ⟨rfl, hb⟩; have n0_ := Aside0.mk (below_step (by repeat (first | (with_reducible first | exact HB.out | apply below_alloc | apply pw_below_drewN | apply below_drew1) | exact HB.out)) hb); clear HB; have HB := n0_; clear n0_; (try clear hb); (try clear hb2); (try clear hk); (try clear hi)) | (go_at_call 12; (with_reducible refine (spec_Marks.calls _ _ l0 t135 true _ ?side1 ?side2 A4.out).mono ?_); (case side1 => repeat (first | exact (Kd.C_below HR0.out HB.out) | (with_reducible refine Kd.C_alloc ?_ _) | (with_reducible refine Kd.C_drewN ?_ _) | (with_reducible refine Kd.C_drew ?_))); (case side2 => exact HC0.out); rintro e w9 ⟨v137, rfl, ho0, hb⟩; have n0_ := Aside0.mk (Kd.S_lower ho0 (below_size (by repeat (first | (with_reducible first | exact HB.out | apply below_alloc | apply pw_below_drewN | apply below_drew1) | exact HB.out)))); have n1_ := Aside0.mk (below_step (by repeat (first | (with_reducible first | exact HB.out | apply below_alloc | apply pw_below_drewN | apply below_drew1) | exact HB.out)) hb); clear HB; have HO138 := n0_; have HB := n1_; clear n0_ n1_; (try clear hb); (try clear hb2); (try clear hk); (try clear hi); (try clear ho0)) | (go_at_call 14; (with_reducible refine (impl_RunMarks.calls _ _ l0 t140 _ ?side1 ?side2 A6.out).mono ?_); (case side1 => repeat (first | exact (Kd.C_below HR0.out HB.out) | (with_reducible refine Kd.C_alloc ?_ _) | (with_reducible refine Kd.C_drewN ?_ _) | (with_reducible refine Kd.C_drew ?_))); (case side2 => exact HC0.out); rintro e w10 ⟨v141, rfl, ho0, hb⟩; have n0_ := Aside0.mk (Kd.S_elder' (by (with_reducible repeat (first | apply Kd.S_alloc | apply Kd.S_drewN | apply Kd.S_drew)); exact HO138.out) (Kd.S_base ho0) hb); have n1_ := Aside0.mk (Kd.S_lower (Kd.S_new' ho0 (Kd.S_lt (by (with_reducible repeat (first | apply Kd.S_alloc | apply Kd.S_drewN | apply Kd.S_drew)); exact HO138.out))) (below_size (by repeat (first | (with_reducible first | exact HB.out | apply below_alloc | apply pw_below_drewN | apply below_drew1) | exact HB.out)))); have n2_ := Aside0.mk (below_step (by repeat (first | (with_reducible first | exact HB.out | apply below_alloc | apply pw_below_drewN | apply below_drew1) | exact HB.out)) hb); clear HO138; clear HB; have HO138 := n0_; have HO142 := n1_; have HB := n2_; clear n0_ n1_ n2_; (try clear hb); (try clear hb2); (try clear hk); (try clear hi); (try clear ho0); obtain ⟨Ao11, co11, eo11⟩ := Kd.S_slice HO142.out; subst eo11)))
        go_loopg [6, 31] k (fun kq v6 v31 w' => ∃ (x6_1 : Int) (x31_1 : Int), v6 = .int .i64 x6_1 ∧ v31 = .int .i64 x31_1 ∧ Aside0 (laws_FnMarkGrows.l0 kq l0 t140 x6_1 (t140.length : Int) x31_1 = some r) ∧ Aside0 (kq ≤ k) ∧ Aside0 (Kd.S k34 34 w' w.heap.size (fun _ => True) (.slice Ao11 t140.length co11) t140) ∧ Aside0 (Below w.heap.size w w'))
        case atStart => exact ⟨(0), (0), (by first | rfl | (simp; done) | (simp [*]; done)), (by first | rfl | (simp; done) | (simp [*]; done)), H', ⟨Nat.le_refl _⟩, ⟨by (with_reducible repeat (first | apply Kd.S_alloc | apply Kd.S_drewN | apply Kd.S_drew)); exact Kd.S_mono HO142.out (fun _ hk => trivial)⟩, ⟨by repeat (first | (with_reducible first | exact HB.out | apply below_alloc | apply pw_below_drewN | apply below_drew1) | exact HB.out)⟩⟩
        case round =>
          clear H'
          try clear p2
          try clear c3
          try clear c5
          try clear c7
          try clear c7b0
          try clear c7b1
          try clear c7b2
          obtain ⟨x6_1, x31_1, rfl, rfl, HA, HK1, HO_5, HB⟩ := hrel
          cases gk with
          | zero => exact absurd HA.out (by simp [laws_FnMarkGrows.l0])
          | succ k1 =>
            have H := HA.out
            clear HA
            simp only [laws_FnMarkGrows.l0] at H
            by_cases c12 : x31_1 < (t140.length : Int)
            · rw [if_pos c12] at H
              have c12b0 : decide (x31_1 < (t140.length : Int)) = true := decide_eq_true c12
              clear c12
              by_cases c13 : 0 ≤ x31_1
              · rw [if_pos c13] at H
                have c13b0 : decide (0 ≤ x31_1) = true := decide_eq_true c13
                clear c13
                by_cases c14 : x31_1 < (l0.length : Int)
                · rw [if_pos c14] at H
                  have c14b0 : decide (x31_1 < (l0.length : Int)) = true := decide_eq_true c14
                  clear c14
                  have HC15 := Aside0.mk H
                  clear H
                  have p144 : 0 ≤ (x31_1 : Int) := of_decide_eq_true (by first | (with_reducible assumption) | assumption)
                  have q144 : x31_1 < (l0.length : Int) := of_decide_eq_true (by first | (with_reducible assumption) | assumption)
                  obtain ⟨ad144, A144_2, c144_2, e144, hx144_0, hx144_1, hx144_2, hl144_2, hi144_2⟩ := at_T31 HR0.out x31_1 p144 q144
                  cases e144
                  replace hx144_0 := (HB.out.cell (World.block_lt_of_cell? w _ hx144_0)).trans hx144_0
                  replace hx144_1 := (HB.out.cell (World.block_lt_of_cell? w _ hx144_1)).trans hx144_1
                  replace hx144_2 := (HB.out.cell (World.block_lt_of_cell? w _ hx144_2)).trans hx144_2
                  have HR144_2 := Aside0.mk hi144_2
                  have HC144_2 := Aside0.mk hl144_2
                  clear hi144_2 hl144_2
                  replace p144 := eq_true p144
                  replace q144 := eq_true q144
                  go_upto_if 39 with (fail)
                  repeat (go_quiet (fail); go_upto_if 39 with (fail))
                  go_cut [6] (fun v6 wc => ∃ (kq : Nat) (x6_14 : Int), v6 = .int .i64 x6_14 ∧ Aside0 (laws_FnMarkGrows.j1 kq l0 t140 x6_14 x31_1 (t140.length : Int) x31_1 = some r) ∧ Aside0 (kq ≤ k1) ∧ Aside0 (Kd.S k34 34 wc w.heap.size (fun _ => True) (.slice Ao11 t140.length co11) t140) ∧ Aside0 (Below w.heap.size w wc))
                  case first =>
                    have H := HC15.out
                    clear HC15
                    by_cases c16 : ((rd_T31 l0 x31_1).f0) = 0
                    · rw [if_pos c16] at H
                      have c16b0 : (((rd_T31 l0 x31_1).f0) == 0) = true := beq_iff_eq.mpr c16
                      have c16b1 : (((rd_T31 l0 x31_1).f0) != 0) = false := bne_eq_false_iff_eq.mpr c16
                      clear c16
                      (first | rw [c16b0] | (simp only [i64_w, i32_w]; rw [c16b0]) | skip)
                      obtain ⟨ji17, hji17⟩ : ∃ j_ : Int, (mx x6_1 ((rd_T31 l0 x31_1).f1)) = j_ := ⟨_, rfl⟩
                      replace H : (laws_FnMarkGrows.j1 k1 l0 t140 ji17 x31_1 (t140.length : Int) x31_1) = some r := by first | (rw [hji17] at H; exact H) | (simp only [hji17] at H ⊢; exact H)
                      have hji17_ : (if x6_1 < ((rd_T31 l0 x31_1).f1) then ((rd_T31 l0 x31_1).f1) else x6_1) = ji17 := hji17
                      have H' := Aside0.mk H
                      clear H
                      have p145 : 0 ≤ (x31_1 : Int) := of_decide_eq_true (by first | (with_reducible assumption) | assumption)
                      have q145 : x31_1 < (l0.length : Int) := of_decide_eq_true (by first | (with_reducible assumption) | assumption)
                      obtain ⟨ad145, A145_2, c145_2, e145, hx145_0, hx145_1, hx145_2, hl145_2, hi145_2⟩ := at_T31 HR0.out x31_1 p145 q145
                      obtain rfl : ad144 = ad145 := (by injection e145)
                      replace hx145_0 := (HB.out.cell (World.block_lt_of_cell? w _ hx145_0)).trans hx145_0
                      replace hx145_1 := (HB.out.cell (World.block_lt_of_cell? w _ hx145_1)).trans hx145_1
                      replace hx145_2 := (HB.out.cell (World.block_lt_of_cell? w _ hx145_2)).trans hx145_2
                      have HR145_2 := Aside0.mk hi145_2
                      have HC145_2 := Aside0.mk hl145_2
                      clear hi145_2 hl145_2
                      replace p145 := eq_true p145
                      replace q145 := eq_true q145
                      go_wp2
                      repeat (go_quiet (fail); try go_wp2)
                      go_meet
                      case rel => exact ⟨_, (ji17), (by first | rfl | (simp; done) | (simp only [← hji17] <;> (first | rfl | simp)) | (simp [*]; done)), H', ⟨by have := HK1.out; first | omega | exact Nat.le_refl _⟩, ⟨by (with_reducible repeat (first | apply Kd.S_alloc | apply Kd.S_drewN | apply Kd.S_drew)); exact HO_5.out⟩, ⟨by repeat (first | (with_reducible first | exact HB.out | apply below_alloc | apply pw_below_drewN | apply below_drew1) | exact HB.out)⟩⟩
                    · rw [if_neg c16] at H
                      have c16b0 : (((rd_T31 l0 x31_1).f0) == 0) = false := beq_eq_false_iff_ne.mpr c16
                      have c16b1 : (((rd_T31 l0 x31_1).f0) != 0) = true := bne_iff_ne.mpr c16
                      (first | rw [c16b0] | (simp only [i64_w, i32_w]; rw [c16b0]) | skip)
                      have H' := Aside0.mk H
                      clear H
                      go_wp2
                      repeat (go_quiet (fail); try go_wp2)
                      go_meet
                      case rel => exact ⟨_, (x6_1), (by first | rfl | (simp; done) | (simp [*]; done)), H', ⟨by have := HK1.out; first | omega | exact Nat.le_refl _⟩, ⟨by (with_reducible repeat (first | apply Kd.S_alloc | apply Kd.S_drewN | apply Kd.S_drew)); exact HO_5.out⟩, ⟨by repeat (first | (with_reducible first | exact HB.out | apply below_alloc | apply pw_below_drewN | apply below_drew1) | exact HB.out)⟩⟩
                  case rest =>
                    clear HC15
                    try clear c1
                    try clear p1
                    try clear q1
                    try clear hx1
                    try clear p2
                    try clear c3
                    try clear c5
                    try clear c7
                    try clear c7b0
                    try clear c7b1
                    try clear c7b2
                    try clear c12
                    try clear c12b0
                    try clear c13
                    try clear c13b0
                    try clear c14
                    try clear c14b0
                    try clear p14
                    try clear q14
                    try clear hx14
                    try clear c16
                    try clear c16b0
                    try clear c16b1
                    try clear hx144_0
                    try clear hx144_1
                    try clear hx144_2
                    try clear hx145_0
                    try clear hx145_1
                    try clear hx145_2
                    try clear p144
                    try clear p145
                    try clear p2
                    try clear q144
                    try clear q145
                    obtain ⟨kq, x6_14, rfl, HA, HJ14, HO_5, HB⟩ := hcut
                    cases kq with
                    | zero => exact absurd HA.out (by simp [laws_FnMarkGrows.j1])
                    | succ kj14 =>
                      have H := HA.out
                      clear HA
                      simp only [laws_FnMarkGrows.j1] at H
                      by_cases c18 : 0 ≤ x31_1
                      · rw [if_pos c18] at H
                        have c18b0 : decide (0 ≤ x31_1) = true := decide_eq_true c18
                        clear c18
                        by_cases c19 : x31_1 < (l0.length : Int)
                        · rw [if_pos c19] at H
                          have c19b0 : decide (x31_1 < (l0.length : Int)) = true := decide_eq_true c19
                          clear c19
                          have H' := Aside0.mk H
                          clear H
                          have p146 : 0 ≤ (x31_1 : Int) := of_decide_eq_true (by first | (with_reducible assumption) | assumption)
                          have q146 : x31_1 < (l0.length : Int) := of_decide_eq_true (by first | (with_reducible assumption) | assumption)
                          obtain ⟨ad146, A146_2, c146_2, e146, hx146_0, hx146_1, hx146_2, hl146_2, hi146_2⟩ := at_T31 HR0.out x31_1 p146 q146
                          obtain rfl : ad144 = ad146 := (by injection e146)
                          replace hx146_0 := (HB.out.cell (World.block_lt_of_cell? w _ hx146_0)).trans hx146_0
                          replace hx146_1 := (HB.out.cell (World.block_lt_of_cell? w _ hx146_1)).trans hx146_1
                          replace hx146_2 := (HB.out.cell (World.block_lt_of_cell? w _ hx146_2)).trans hx146_2
                          have HR146_2 := Aside0.mk hi146_2
                          have HC146_2 := Aside0.mk hl146_2
                          clear hi146_2 hl146_2
                          replace p146 := eq_true p146
                          replace q146 := eq_true q146
                          go_wp2
                          repeat (go_quiet (fail); try go_wp2)
                          go_loopg [6, 53] kj14 (fun kq v6 v53 w' => ∃ (x6_3 : Int) (x53_3 : Int), v6 = .int .i64 x6_3 ∧ v53 = .int .i64 x53_3 ∧ Aside0 (laws_FnMarkGrows.l1 kq l0 t140 x6_3 x31_1 (t140.length : Int) x31_1 ((rd_T31 l0 x31_1).f2) (((rd_T31 l0 x31_1).f2).length : Int) x53_3 = some r) ∧ Aside0 (kq ≤ kj14) ∧ Aside0 (Kd.S k34 34 w' w.heap.size (fun _ => True) (.slice Ao11 t140.length co11) t140) ∧ Aside0 (Below w.heap.size w w'))
                          case atStart => exact ⟨(x6_14), (0), (by first | rfl | (simp; done) | (simp [*]; done)), (by first | rfl | (simp; done) | (simp [*]; done)), H', ⟨Nat.le_refl _⟩, ⟨by (with_reducible repeat (first | apply Kd.S_alloc | apply Kd.S_drewN | apply Kd.S_drew)); exact HO_5.out⟩, ⟨by repeat (first | (with_reducible first | exact HB.out | apply below_alloc | apply pw_below_drewN | apply below_drew1) | exact HB.out)⟩⟩
                          case round =>
                            clear H'
                            try clear c1
                            try clear p1
                            try clear q1
                            try clear hx1
                            try clear p2
                            try clear c3
                            try clear c5
                            try clear c7
                            try clear c7b0
                            try clear c7b1
                            try clear c7b2
                            try clear c12
                            try clear c12b0
                            try clear c13
                            try clear c13b0
                            try clear c14
                            try clear c14b0
                            try clear p14
                            try clear q14
                            try clear hx14
                            try clear c16
                            try clear c16b0
                            try clear c16b1
                            try clear c18
                            try clear c18b0
                            try clear c19
                            try clear c19b0
                            try clear hx144_0
                            try clear hx144_1
                            try clear hx144_2
                            try clear hx145_0
                            try clear hx145_1
                            try clear hx145_2
                            try clear hx146_0
                            try clear hx146_1
                            try clear hx146_2
                            try clear p1
                            try clear p14
                            try clear p144
                            try clear p145
                            try clear p146
                            try clear p2
                            try clear q1
                            try clear q14
                            try clear q144
                            try clear q145
                            try clear q146
                            obtain ⟨x6_3, x53_3, rfl, rfl, HA, HK3, HO_5, HB⟩ := hrel
                            cases gk with
                            | zero => exact absurd HA.out (by simp [laws_FnMarkGrows.l1])
                            | succ k3 =>
                              have H := HA.out
                              clear HA
                              simp only [laws_FnMarkGrows.l1] at H
                              by_cases c20 : x53_3 < (((rd_T31 l0 x31_1).f2).length : Int)
                              · rw [if_pos c20] at H
                                have c20b0 : decide (x53_3 < (((rd_T31 l0 x31_1).f2).length : Int)) = true := decide_eq_true c20
                                clear c20
                                by_cases c21 : 0 ≤ x53_3
                                · rw [if_pos c21] at H
                                  have c21b0 : decide (0 ≤ x53_3) = true := decide_eq_true c21
                                  clear c21
                                  by_cases c22 : x53_3 < (((rd_T31 l0 x31_1).f2).length : Int)
                                  · rw [if_pos c22] at H
                                    have c22b0 : decide (x53_3 < (((rd_T31 l0 x31_1).f2).length : Int)) = true := decide_eq_true c22
                                    clear c22
                                    obtain ⟨ji23, hji23⟩ : ∃ j_ : Int, (mx x6_3 (rd ((rd_T31 l0 x31_1).f2) x53_3)) = j_ := ⟨_, rfl⟩
                                    replace H : (laws_FnMarkGrows.l1 k3 l0 t140 ji23 x31_1 (t140.length : Int) x31_1 ((rd_T31 l0 x31_1).f2) (((rd_T31 l0 x31_1).f2).length : Int) (wrap64 (x53_3 + 1))) = some r := by first | (rw [hji23] at H; exact H) | (simp only [hji23] at H ⊢; exact H)
                                    have hji23_ : (if x6_3 < (rd ((rd_T31 l0 x31_1).f2) x53_3) then (rd ((rd_T31 l0 x31_1).f2) x53_3) else x6_3) = ji23 := hji23
                                    have H' := Aside0.mk H
                                    clear H
                                    have p147 : 0 ≤ (x53_3 : Int) := of_decide_eq_true (by first | (with_reducible assumption) | assumption)
                                    have q147 : x53_3 < (((rd_T31 l0 x31_1).f2).length : Int) := of_decide_eq_true (by first | (with_reducible assumption) | assumption)
                                    obtain ⟨ad147, e147, hx147_0⟩ := Kd.at_int HR146_2.out x53_3 p147 q147
                                    cases e147
                                    replace hx147_0 := (HB.out.cell (World.block_lt_of_cell? w _ hx147_0)).trans hx147_0
                                    replace p147 := eq_true p147
                                    replace q147 := eq_true q147
                                    go_wp2
                                    repeat (go_quiet (fail); try go_wp2)
                                    go_roundg k3
                                    case measure => have := HK1.out; have := HJ14.out; have := HK3.out; omega
                                    case rel => exact ⟨(ji23), (wrap64 (x53_3 + 1)), (by first | rfl | (simp; done) | (simp only [← hji23] <;> (first | rfl | simp)) | (simp [*]; done)), (by first | rfl | (simp; done) | (simp [*]; done)), H', ⟨by have := HK1.out; have := HJ14.out; have := HK3.out; omega⟩, ⟨by (with_reducible repeat (first | apply Kd.S_alloc | apply Kd.S_drewN | apply Kd.S_drew)); exact HO_5.out⟩, ⟨by repeat (first | (with_reducible first | exact HB.out | apply below_alloc | apply pw_below_drewN | apply below_drew1) | exact HB.out)⟩⟩
                                  · rw [if_neg c22] at H
                                    exact absurd H (by simp)
                                · rw [if_neg c21] at H
                                  exact absurd H (by simp)
                              · rw [if_neg c20] at H
                                have c20b0 : decide (x53_3 < (((rd_T31 l0 x31_1).f2).length : Int)) = false := decide_eq_false c20
                                clear c20
                                by_cases c24 : 0 ≤ x31_1
                                · rw [if_pos c24] at H
                                  have c24b0 : decide (0 ≤ x31_1) = true := decide_eq_true c24
                                  clear c24
                                  by_cases c25 : x31_1 < (l0.length : Int)
                                  · rw [if_pos c25] at H
                                    have c25b0 : decide (x31_1 < (l0.length : Int)) = true := decide_eq_true c25
                                    clear c25
                                    by_cases c26 : ((rd_T31 l0 x31_1).f0) = 4
                                    · rw [if_pos c26] at H
                                      have c26b0 : (((rd_T31 l0 x31_1).f0) == 4) = true := beq_iff_eq.mpr c26
                                      have c26b1 : (((rd_T31 l0 x31_1).f0) != 4) = false := bne_eq_false_iff_eq.mpr c26
                                      clear c26
                                      have H' := Aside0.mk H
                                      clear H
                                      have p148 : 0 ≤ (x31_1 : Int) := of_decide_eq_true (by first | (with_reducible assumption) | assumption)
                                      have q148 : x31_1 < (l0.length : Int) := of_decide_eq_true (by first | (with_reducible assumption) | assumption)
                                      obtain ⟨ad148, A148_2, c148_2, e148, hx148_0, hx148_1, hx148_2, hl148_2, hi148_2⟩ := at_T31 HR0.out x31_1 p148 q148
                                      obtain rfl : ad144 = ad148 := (by injection e148)
                                      replace hx148_0 := (HB.out.cell (World.block_lt_of_cell? w _ hx148_0)).trans hx148_0
                                      replace hx148_1 := (HB.out.cell (World.block_lt_of_cell? w _ hx148_1)).trans hx148_1
                                      replace hx148_2 := (HB.out.cell (World.block_lt_of_cell? w _ hx148_2)).trans hx148_2
                                      have HR148_2 := Aside0.mk hi148_2
                                      have HC148_2 := Aside0.mk hl148_2
                                      clear hi148_2 hl148_2
                                      replace p148 := eq_true p148
                                      replace q148 := eq_true q148
                                      have p149 : 0 ≤ (x31_1 : Int) := of_decide_eq_true (by first | (with_reducible assumption) | assumption)
                                      have q149 : x31_1 < (l0.length : Int) := of_decide_eq_true (by first | (with_reducible assumption) | assumption)
                                      obtain ⟨ad149, A149_2, c149_2, e149, hx149_0, hx149_1, hx149_2, hl149_2, hi149_2⟩ := at_T31 HR0.out x31_1 p149 q149
                                      obtain rfl : ad144 = ad149 := (by injection e149)
                                      replace hx149_0 := (HB.out.cell (World.block_lt_of_cell? w _ hx149_0)).trans hx149_0
                                      replace hx149_1 := (HB.out.cell (World.block_lt_of_cell? w _ hx149_1)).trans hx149_1
                                      replace hx149_2 := (HB.out.cell (World.block_lt_of_cell? w _ hx149_2)).trans hx149_2
                                      have HR149_2 := Aside0.mk hi149_2
                                      have HC149_2 := Aside0.mk hl149_2
                                      clear hi149_2 hl149_2
                                      replace p149 := eq_true p149
                                      replace q149 := eq_true q149
                                      have ea_ := Option.some.inj (hx148_2.symm.trans hx149_2)
                                      injection ea_ with ea_ en_ ec_
                                      subst ea_
                                      subst ec_
                                      clear en_
                                      go_wp2
                                      repeat (go_quiet (fail); try go_wp2)
                                      go_roundg k3
                                      case measure => have := HK1.out; have := HJ14.out; have := HK3.out; omega
                                      case rel => exact ⟨((rd_T31 l0 x31_1).f1), (wrap64 (x31_1 + 1)), (by first | rfl | (simp; done) | (simp [*]; done)), (by first | rfl | (simp; done) | (simp [*]; done)), H', ⟨by have := HK1.out; have := HJ14.out; have := HK3.out; omega⟩, ⟨by (with_reducible repeat (first | apply Kd.S_alloc | apply Kd.S_drewN | apply Kd.S_drew)); exact HO_5.out⟩, ⟨by repeat (first | (with_reducible first | exact HB.out | apply below_alloc | apply pw_below_drewN | apply below_drew1) | exact HB.out)⟩⟩
                                    · rw [if_neg c26] at H
                                      have c26b0 : (((rd_T31 l0 x31_1).f0) == 4) = false := beq_eq_false_iff_ne.mpr c26
                                      have c26b1 : (((rd_T31 l0 x31_1).f0) != 4) = true := bne_iff_ne.mpr c26
                                      have HC27 := Aside0.mk H
                                      clear H
                                      have p148 : 0 ≤ (x31_1 : Int) := of_decide_eq_true (by first | (with_reducible assumption) | assumption)
                                      have q148 : x31_1 < (l0.length : Int) := of_decide_eq_true (by first | (with_reducible assumption) | assumption)
                                      obtain ⟨ad148, A148_2, c148_2, e148, hx148_0, hx148_1, hx148_2, hl148_2, hi148_2⟩ := at_T31 HR0.out x31_1 p148 q148
                                      obtain rfl : ad144 = ad148 := (by injection e148)
                                      replace hx148_0 := (HB.out.cell (World.block_lt_of_cell? w _ hx148_0)).trans hx148_0
                                      replace hx148_1 := (HB.out.cell (World.block_lt_of_cell? w _ hx148_1)).trans hx148_1
                                      replace hx148_2 := (HB.out.cell (World.block_lt_of_cell? w _ hx148_2)).trans hx148_2
                                      have HR148_2 := Aside0.mk hi148_2
                                      have HC148_2 := Aside0.mk hl148_2
                                      clear hi148_2 hl148_2
                                      replace p148 := eq_true p148
                                      replace q148 := eq_true q148
                                      go_upto_region 22 with (fail)
                                      repeat (go_quiet (fail); go_upto_region 22 with (fail))
                                      go_cut [96] (fun v96 wc => ∃ (kq : Nat) (x96_26 : Bool), v96 = .bool x96_26 ∧ Aside0 (laws_FnMarkGrows.j3 kq l0 t140 x6_3 x31_1 (t140.length : Int) x31_1 x96_26 = some r) ∧ Aside0 (kq ≤ k3) ∧ Aside0 (Kd.S k34 34 wc w.heap.size (fun _ => True) (.slice Ao11 t140.length co11) t140) ∧ Aside0 (Below w.heap.size w wc))
                                      case first =>
                                        have H := HC27.out
                                        clear HC27
                                        by_cases c28 : x31_1 < (t140.length : Int)
                                        · rw [if_pos c28] at H
                                          have c28b0 : decide (x31_1 < (t140.length : Int)) = true := decide_eq_true c28
                                          clear c28
                                          (first | rw [c28b0] | (simp only [i64_w, i32_w]; rw [c28b0]) | skip)
                                          by_cases c29 : ((rd_T34 t140 x31_1).f0) > x6_3
                                          · rw [if_pos c29] at H
                                            have c29b0 : decide (x6_3 < ((rd_T34 t140 x31_1).f0)) = true := decide_eq_true c29
                                            clear c29
                                            have H' := Aside0.mk H
                                            clear H
                                            have p150 : 0 ≤ (x31_1 : Int) := of_decide_eq_true (by first | (with_reducible assumption) | assumption)
                                            have q150 : x31_1 < (t140.length : Int) := of_decide_eq_true (by first | (with_reducible assumption) | assumption)
                                            obtain ⟨ad150, A150_4, c150_4, e150, hx150_0, hx150_1, hx150_2, hx150_3, hx150_4, hl150_4, hi150_4⟩ := at_T34 (Kd.S_reads' HO_5.out).2.2 x31_1 p150 q150
                                            cases e150
                                            obtain ⟨ce150, hce150, hMe150, hcc150⟩ := Kd.S_get HO_5.out z34 x31_1 p150 (by first | exact q150 | exact of_decide_eq_true (by first | (with_reducible assumption) | assumption) | (have e_ := (Kd.S_reads' HO_5.out).1; omega))
                                            obtain ⟨ve150_4, rfl, ge150_4⟩ := k34_openM hMe150
                                            have hv150_4 := hcc150 4 _ rfl
                                            rw [add_field _ _ 4 (by omega)] at hv150_4
                                            replace hv150_4 := Option.some.inj (hv150_4.symm.trans hx150_4)
                                            rw [hv150_4] at ge150_4
                                            have HL150_4 := Aside0.mk (show Kd.R Kd.bool 4 _ _ _ _ ((rd_T34 t140 x31_1).f4) from ge150_4)
                                            clear hv150_4 ge150_4
                                            clear hcc150 hce150
                                            have HR150_4 := Aside0.mk hi150_4
                                            have HC150_4 := Aside0.mk hl150_4
                                            clear hi150_4 hl150_4
                                            replace p150 := eq_true p150
                                            replace q150 := eq_true q150
                                            go_wp2
                                            repeat (go_quiet (fail); try go_wp2)
                                            go_meet
                                            case rel => exact ⟨_, (true), (by first | rfl | (simp; done) | (simp [*]; done)), H', ⟨by have := HK1.out; have := HJ14.out; have := HK3.out; first | omega | exact Nat.le_refl _⟩, ⟨by (with_reducible repeat (first | apply Kd.S_alloc | apply Kd.S_drewN | apply Kd.S_drew)); exact HO_5.out⟩, ⟨by repeat (first | (with_reducible first | exact HB.out | apply below_alloc | apply pw_below_drewN | apply below_drew1) | exact HB.out)⟩⟩
                                          · rw [if_neg c29] at H
                                            have c29b0 : decide (x6_3 < ((rd_T34 t140 x31_1).f0)) = false := decide_eq_false c29
                                            clear c29
                                            by_cases c30 : x31_1 > 0
                                            · rw [if_pos c30] at H
                                              have c30b0 : decide (0 < x31_1) = true := decide_eq_true c30
                                              clear c30
                                              obtain ⟨ji31, hji31⟩ : ∃ j_ : Int, (wrap64 (x31_1 - 1)) = j_ := ⟨_, rfl⟩
                                              replace H : (if 0 ≤ (ji31) then (if (ji31) < (t140.length : Int) then (laws_FnMarkGrows.j3 k3 l0 t140 x6_3 x31_1 (t140.length : Int) x31_1 (decide (((rd_T34 t140 x31_1).f0) < ((rd_T34 t140 (ji31)).f0)))) else (none)) else (none)) = some r := by first | (rw [hji31] at H; exact H) | (simp only [hji31] at H ⊢; exact H)
                                              have hji31w : (IntKind.i64.wrap (x31_1 - 1)) = ji31 := (i64_w _).trans hji31
                                              by_cases c32 : 0 ≤ (ji31)
                                              · rw [if_pos c32] at H
                                                have c32b0 : decide (0 ≤ (ji31)) = true := decide_eq_true c32
                                                clear c32
                                                by_cases c33 : (ji31) < (t140.length : Int)
                                                · rw [if_pos c33] at H
                                                  have c33b0 : decide ((ji31) < (t140.length : Int)) = true := decide_eq_true c33
                                                  clear c33
                                                  have H' := Aside0.mk H
                                                  clear H
                                                  have p150 : 0 ≤ (x31_1 : Int) := of_decide_eq_true (by first | (with_reducible assumption) | assumption)
                                                  have q150 : x31_1 < (t140.length : Int) := of_decide_eq_true (by first | (with_reducible assumption) | assumption)
                                                  obtain ⟨ad150, A150_4, c150_4, e150, hx150_0, hx150_1, hx150_2, hx150_3, hx150_4, hl150_4, hi150_4⟩ := at_T34 (Kd.S_reads' HO_5.out).2.2 x31_1 p150 q150
                                                  cases e150
                                                  obtain ⟨ce150, hce150, hMe150, hcc150⟩ := Kd.S_get HO_5.out z34 x31_1 p150 (by first | exact q150 | exact of_decide_eq_true (by first | (with_reducible assumption) | assumption) | (have e_ := (Kd.S_reads' HO_5.out).1; omega))
                                                  obtain ⟨ve150_4, rfl, ge150_4⟩ := k34_openM hMe150
                                                  have hv150_4 := hcc150 4 _ rfl
                                                  rw [add_field _ _ 4 (by omega)] at hv150_4
                                                  replace hv150_4 := Option.some.inj (hv150_4.symm.trans hx150_4)
                                                  rw [hv150_4] at ge150_4
                                                  have HL150_4 := Aside0.mk (show Kd.R Kd.bool 4 _ _ _ _ ((rd_T34 t140 x31_1).f4) from ge150_4)
                                                  clear hv150_4 ge150_4
                                                  clear hcc150 hce150
                                                  have HR150_4 := Aside0.mk hi150_4
                                                  have HC150_4 := Aside0.mk hl150_4
                                                  clear hi150_4 hl150_4
                                                  replace p150 := eq_true p150
                                                  replace q150 := eq_true q150
                                                  have p151 : 0 ≤ (x31_1 : Int) := of_decide_eq_true (by first | (with_reducible assumption) | assumption)
                                                  have q151 : x31_1 < (t140.length : Int) := of_decide_eq_true (by first | (with_reducible assumption) | assumption)
                                                  obtain ⟨ad151, A151_4, c151_4, e151, hx151_0, hx151_1, hx151_2, hx151_3, hx151_4, hl151_4, hi151_4⟩ := at_T34 (Kd.S_reads' HO_5.out).2.2 x31_1 p151 q151
                                                  obtain rfl : ad150 = ad151 := (by injection e151)
                                                  obtain ⟨ce151, hce151, hMe151, hcc151⟩ := Kd.S_get HO_5.out z34 x31_1 p151 (by first | exact q151 | exact of_decide_eq_true (by first | (with_reducible assumption) | assumption) | (have e_ := (Kd.S_reads' HO_5.out).1; omega))
                                                  obtain ⟨ve151_4, rfl, ge151_4⟩ := k34_openM hMe151
                                                  have hv151_4 := hcc151 4 _ rfl
                                                  rw [add_field _ _ 4 (by omega)] at hv151_4
                                                  replace hv151_4 := Option.some.inj (hv151_4.symm.trans hx151_4)
                                                  rw [hv151_4] at ge151_4
                                                  have HL151_4 := Aside0.mk (show Kd.R Kd.bool 4 _ _ _ _ ((rd_T34 t140 x31_1).f4) from ge151_4)
                                                  clear hv151_4 ge151_4
                                                  clear hcc151 hce151
                                                  have HR151_4 := Aside0.mk hi151_4
                                                  have HC151_4 := Aside0.mk hl151_4
                                                  clear hi151_4 hl151_4
                                                  replace p151 := eq_true p151
                                                  replace q151 := eq_true q151
                                                  have ea_ := Option.some.inj (hx150_4.symm.trans hx151_4)
                                                  injection ea_ with ea_ en_ ec_
                                                  subst ea_
                                                  subst ec_
                                                  clear en_
                                                  have p152 : 0 ≤ ((ji31) : Int) := of_decide_eq_true (by first | (with_reducible assumption) | assumption)
                                                  have q152 : (ji31) < (t140.length : Int) := of_decide_eq_true (by first | (with_reducible assumption) | assumption)
                                                  obtain ⟨ad152, A152_4, c152_4, e152, hx152_0, hx152_1, hx152_2, hx152_3, hx152_4, hl152_4, hi152_4⟩ := at_T34 (Kd.S_reads' HO_5.out).2.2 (ji31) p152 q152
                                                  obtain rfl : ad150 = ad152 := (by injection e152)
                                                  obtain ⟨ce152, hce152, hMe152, hcc152⟩ := Kd.S_get HO_5.out z34 (ji31) p152 (by first | exact q152 | exact of_decide_eq_true (by first | (with_reducible assumption) | assumption) | (have e_ := (Kd.S_reads' HO_5.out).1; omega))
                                                  obtain ⟨ve152_4, rfl, ge152_4⟩ := k34_openM hMe152
                                                  have hv152_4 := hcc152 4 _ rfl
                                                  rw [add_field _ _ 4 (by omega)] at hv152_4
                                                  replace hv152_4 := Option.some.inj (hv152_4.symm.trans hx152_4)
                                                  rw [hv152_4] at ge152_4
                                                  have HL152_4 := Aside0.mk (show Kd.R Kd.bool 4 _ _ _ _ ((rd_T34 t140 (ji31)).f4) from ge152_4)
                                                  clear hv152_4 ge152_4
                                                  clear hcc152 hce152
                                                  have HR152_4 := Aside0.mk hi152_4
                                                  have HC152_4 := Aside0.mk hl152_4
                                                  clear hi152_4 hl152_4
                                                  replace p152 := eq_true p152
                                                  replace q152 := eq_true q152
                                                  go_wp2
                                                  repeat (go_quiet (fail); try go_wp2)
                                                  go_meet
                                                  case rel => exact ⟨_, (decide (((rd_T34 t140 x31_1).f0) < ((rd_T34 t140 (ji31)).f0))), (by first | rfl | (simp; done) | (simp only [← hji31] <;> (first | rfl | simp)) | (simp [*]; done)), H', ⟨by have := HK1.out; have := HJ14.out; have := HK3.out; first | omega | exact Nat.le_refl _⟩, ⟨by (with_reducible repeat (first | apply Kd.S_alloc | apply Kd.S_drewN | apply Kd.S_drew)); exact HO_5.out⟩, ⟨by repeat (first | (with_reducible first | exact HB.out | apply below_alloc | apply pw_below_drewN | apply below_drew1) | exact HB.out)⟩⟩
                                                · rw [if_neg c33] at H
                                                  exact absurd H (by simp)
                                              · rw [if_neg c32] at H
                                                exact absurd H (by simp)
                                            · rw [if_neg c30] at H
                                              have c30b0 : decide (0 < x31_1) = false := decide_eq_false c30
                                              clear c30
                                              have H' := Aside0.mk H
                                              clear H
                                              have p150 : 0 ≤ (x31_1 : Int) := of_decide_eq_true (by first | (with_reducible assumption) | assumption)
                                              have q150 : x31_1 < (t140.length : Int) := of_decide_eq_true (by first | (with_reducible assumption) | assumption)
                                              obtain ⟨ad150, A150_4, c150_4, e150, hx150_0, hx150_1, hx150_2, hx150_3, hx150_4, hl150_4, hi150_4⟩ := at_T34 (Kd.S_reads' HO_5.out).2.2 x31_1 p150 q150
                                              cases e150
                                              obtain ⟨ce150, hce150, hMe150, hcc150⟩ := Kd.S_get HO_5.out z34 x31_1 p150 (by first | exact q150 | exact of_decide_eq_true (by first | (with_reducible assumption) | assumption) | (have e_ := (Kd.S_reads' HO_5.out).1; omega))
                                              obtain ⟨ve150_4, rfl, ge150_4⟩ := k34_openM hMe150
                                              have hv150_4 := hcc150 4 _ rfl
                                              rw [add_field _ _ 4 (by omega)] at hv150_4
                                              replace hv150_4 := Option.some.inj (hv150_4.symm.trans hx150_4)
                                              rw [hv150_4] at ge150_4
                                              have HL150_4 := Aside0.mk (show Kd.R Kd.bool 4 _ _ _ _ ((rd_T34 t140 x31_1).f4) from ge150_4)
                                              clear hv150_4 ge150_4
                                              clear hcc150 hce150
                                              have HR150_4 := Aside0.mk hi150_4
                                              have HC150_4 := Aside0.mk hl150_4
                                              clear hi150_4 hl150_4
                                              replace p150 := eq_true p150
                                              replace q150 := eq_true q150
                                              go_wp2
                                              repeat (go_quiet (fail); try go_wp2)
                                              go_meet
                                              case rel => exact ⟨_, (false), (by first | rfl | (simp; done) | (simp [*]; done)), H', ⟨by have := HK1.out; have := HJ14.out; have := HK3.out; first | omega | exact Nat.le_refl _⟩, ⟨by (with_reducible repeat (first | apply Kd.S_alloc | apply Kd.S_drewN | apply Kd.S_drew)); exact HO_5.out⟩, ⟨by repeat (first | (with_reducible first | exact HB.out | apply below_alloc | apply pw_below_drewN | apply below_drew1) | exact HB.out)⟩⟩
                                        · rw [if_neg c28] at H
                                          exact absurd H (by simp)
                                      case rest =>
                                        clear HC27
                                        try clear c1
                                        try clear p1
                                        try clear q1
                                        try clear hx1
                                        try clear c2
                                        try clear p2
                                        try clear c3
                                        try clear c5
                                        try clear p6
                                        try clear c7
                                        try clear c7b0
                                        try clear c7b1
                                        try clear c7b2
                                        try clear c12
                                        try clear c12b0
                                        try clear c13
                                        try clear c13b0
                                        try clear c14
                                        try clear c14b0
                                        try clear p14
                                        try clear q14
                                        try clear hx14
                                        try clear c15
                                        try clear p15
                                        try clear q15
                                        try clear hx15
                                        try clear c16
                                        try clear c16b0
                                        try clear c16b1
                                        try clear c18
                                        try clear c18b0
                                        try clear c19
                                        try clear c19b0
                                        try clear c20
                                        try clear c20b0
                                        try clear c21
                                        try clear c21b0
                                        try clear c22
                                        try clear c22b0
                                        try clear c24
                                        try clear c24b0
                                        try clear c25
                                        try clear c25b0
                                        try clear c26
                                        try clear c26b0
                                        try clear c26b1
                                        try clear c28
                                        try clear c28b0
                                        try clear c29
                                        try clear c29b0
                                        try clear c30
                                        try clear c30b0
                                        try clear c32
                                        try clear c32b0
                                        try clear c33
                                        try clear c33b0
                                        try clear hx144_0
                                        try clear hx144_1
                                        try clear hx144_2
                                        try clear hx145_0
                                        try clear hx145_1
                                        try clear hx145_2
                                        try clear hx146_0
                                        try clear hx146_1
                                        try clear hx146_2
                                        try clear hx147_0
                                        try clear hx148_0
                                        try clear hx148_1
                                        try clear hx148_2
                                        try clear hx149_0
                                        try clear hx149_1
                                        try clear hx149_2
                                        try clear hx150_0
                                        try clear hx150_1
                                        try clear hx150_2
                                        try clear hx150_3
                                        try clear hx150_4
                                        try clear hx151_0
                                        try clear hx151_1
                                        try clear hx151_2
                                        try clear hx151_3
                                        try clear hx151_4
                                        try clear hx152_0
                                        try clear hx152_1
                                        try clear hx152_2
                                        try clear hx152_3
                                        try clear hx152_4
                                        try clear p1
                                        try clear p14
                                        try clear p144
                                        try clear p145
                                        try clear p146
                                        try clear p147
                                        try clear p148
                                        try clear p149
                                        try clear p150
                                        try clear p151
                                        try clear p152
                                        try clear p2
                                        try clear q1
                                        try clear q14
                                        try clear q144
                                        try clear q145
                                        try clear q146
                                        try clear q147
                                        try clear q148
                                        try clear q149
                                        try clear q150
                                        try clear q151
                                        try clear q152
                                        obtain ⟨kq, x96_26, rfl, HA, HJ26, HO_5, HB⟩ := hcut
                                        cases kq with
                                        | zero => exact absurd HA.out (by simp [laws_FnMarkGrows.j3])
                                        | succ kj26 =>
                                          have H := HA.out
                                          clear HA
                                          simp only [laws_FnMarkGrows.j3] at H
                                          by_cases c34 : x96_26 = true
                                          · subst c34
                                            have H1 : (some false) = some r := by rw [if_pos rfl] at H; exact H
                                            clear H
                                            have H := H1
                                            clear H1
                                            obtain rfl := Option.some.inj H
                                            go_wp2
                                            repeat (go_quiet (fail); try go_wp2)
                                            go_ret
                                            exact ⟨by first | rfl | (simp [errW_none, errW_some] <;> rfl) | (simp [*, errW_none, errW_some] <;> rfl), by repeat (first | (with_reducible first | exact HB.out | apply below_alloc | apply pw_below_drewN | apply below_drew1) | exact HB.out)⟩
                                          · replace c34 := Bool.eq_false_iff.mpr c34
                                            subst c34
                                            have H1 : (laws_FnMarkGrows.l2 kj26 l0 t140 x6_3 x31_1 0 (t140.length : Int) x31_1) = some r := by rw [if_neg (show ¬ (false = true) by decide)] at H; exact H
                                            clear H
                                            have H := H1
                                            clear H1
                                            have H' := Aside0.mk H
                                            clear H
                                            go_wp2
                                            repeat (go_quiet (fail); try go_wp2)
                                            go_loopg [10] kj26 (fun kq v10 w' => ∃ (x10_5 : Int), v10 = .int .i64 x10_5 ∧ Aside0 (laws_FnMarkGrows.l2 kq l0 t140 x6_3 x31_1 x10_5 (t140.length : Int) x31_1 = some r) ∧ Aside0 (kq ≤ kj26) ∧ Aside0 (Kd.S k34 34 w' w.heap.size (fun _ => True) (.slice Ao11 t140.length co11) t140) ∧ Aside0 (Below w.heap.size w w'))
                                            case atStart => exact ⟨(0), (by first | rfl | (simp; done) | (simp [*]; done)), H', ⟨Nat.le_refl _⟩, ⟨by (with_reducible repeat (first | apply Kd.S_alloc | apply Kd.S_drewN | apply Kd.S_drew)); exact HO_5.out⟩, ⟨by repeat (first | (with_reducible first | exact HB.out | apply below_alloc | apply pw_below_drewN | apply below_drew1) | exact HB.out)⟩⟩
                                            case round =>
                                              clear H'
                                              try clear c1
                                              try clear p1
                                              try clear q1
                                              try clear hx1
                                              try clear c2
                                              try clear p2
                                              try clear c3
                                              try clear c5
                                              try clear p6
                                              try clear c7
                                              try clear c7b0
                                              try clear c7b1
                                              try clear c7b2
                                              try clear c12
                                              try clear c12b0
                                              try clear c13
                                              try clear c13b0
                                              try clear c14
                                              try clear c14b0
                                              try clear p14
                                              try clear q14
                                              try clear hx14
                                              try clear c15
                                              try clear p15
                                              try clear q15
                                              try clear hx15
                                              try clear c16
                                              try clear c16b0
                                              try clear c16b1
                                              try clear c18
                                              try clear c18b0
                                              try clear c19
                                              try clear c19b0
                                              try clear c20
                                              try clear c20b0
                                              try clear c21
                                              try clear c21b0
                                              try clear c22
                                              try clear c22b0
                                              try clear c24
                                              try clear c24b0
                                              try clear c25
                                              try clear c25b0
                                              try clear c26
                                              try clear c26b0
                                              try clear c26b1
                                              try clear c28
                                              try clear c28b0
                                              try clear c29
                                              try clear c29b0
                                              try clear c30
                                              try clear c30b0
                                              try clear c32
                                              try clear c32b0
                                              try clear c33
                                              try clear c33b0
                                              try clear c34
                                              try clear hx144_0
                                              try clear hx144_1
                                              try clear hx144_2
                                              try clear hx145_0
                                              try clear hx145_1
                                              try clear hx145_2
                                              try clear hx146_0
                                              try clear hx146_1
                                              try clear hx146_2
                                              try clear hx147_0
                                              try clear hx148_0
                                              try clear hx148_1
                                              try clear hx148_2
                                              try clear hx149_0
                                              try clear hx149_1
                                              try clear hx149_2
                                              try clear hx150_0
                                              try clear hx150_1
                                              try clear hx150_2
                                              try clear hx150_3
                                              try clear hx150_4
                                              try clear hx151_0
                                              try clear hx151_1
                                              try clear hx151_2
                                              try clear hx151_3
                                              try clear hx151_4
                                              try clear hx152_0
                                              try clear hx152_1
                                              try clear hx152_2
                                              try clear hx152_3
                                              try clear hx152_4
                                              try clear p1
                                              try clear p14
                                              try clear p144
                                              try clear p145
                                              try clear p146
                                              try clear p147
                                              try clear p148
                                              try clear p149
                                              try clear p15
                                              try clear p150
                                              try clear p151
                                              try clear p152
                                              try clear p2
                                              try clear p6
                                              try clear q1
                                              try clear q14
                                              try clear q144
                                              try clear q145
                                              try clear q146
                                              try clear q147
                                              try clear q148
                                              try clear q149
                                              try clear q15
                                              try clear q150
                                              try clear q151
                                              try clear q152
                                              obtain ⟨x10_5, rfl, HA, HK5, HO_5, HB⟩ := hrel
                                              cases gk with
                                              | zero => exact absurd HA.out (by simp [laws_FnMarkGrows.l2])
                                              | succ k5 =>
                                                have H := HA.out
                                                clear HA
                                                simp only [laws_FnMarkGrows.l2] at H
                                                have HC35 := Aside0.mk H
                                                clear H
                                                go_upto_region 25 with (fail)
                                                repeat (go_quiet (fail); go_upto_region 25 with (fail))
                                                go_cut [109] (fun v109 wc => ∃ (kq : Nat) (x109_34 : Bool), v109 = .bool x109_34 ∧ Aside0 (laws_FnMarkGrows.j5 kq l0 t140 x6_3 x31_1 x10_5 (t140.length : Int) x31_1 x109_34 = some r) ∧ Aside0 (kq ≤ k5) ∧ Aside0 (Kd.S k34 34 wc w.heap.size (fun _ => True) (.slice Ao11 t140.length co11) t140) ∧ Aside0 (Below w.heap.size w wc))
                                                case first =>
                                                  have H := HC35.out
                                                  clear HC35
                                                  by_cases c36 : x31_1 > 0
                                                  · rw [if_pos c36] at H
                                                    have c36b0 : decide (0 < x31_1) = true := decide_eq_true c36
                                                    clear c36
                                                    (first | rw [c36b0] | (simp only [i64_w, i32_w]; rw [c36b0]) | skip)
                                                    obtain ⟨ji37, hji37⟩ : ∃ j_ : Int, (wrap64 (x31_1 - 1)) = j_ := ⟨_, rfl⟩
                                                    replace H : (if 0 ≤ (ji37) then (if (ji37) < (t140.length : Int) then (laws_FnMarkGrows.j5 k5 l0 t140 x6_3 x31_1 x10_5 (t140.length : Int) x31_1 (decide (x10_5 < (((rd_T34 t140 (ji37)).f4).length : Int)))) else (none)) else (none)) = some r := by first | (rw [hji37] at H; exact H) | (simp only [hji37] at H ⊢; exact H)
                                                    have hji37w : (IntKind.i64.wrap (x31_1 - 1)) = ji37 := (i64_w _).trans hji37
                                                    by_cases c38 : 0 ≤ (ji37)
                                                    · rw [if_pos c38] at H
                                                      have c38b0 : decide (0 ≤ (ji37)) = true := decide_eq_true c38
                                                      clear c38
                                                      by_cases c39 : (ji37) < (t140.length : Int)
                                                      · rw [if_pos c39] at H
                                                        have c39b0 : decide ((ji37) < (t140.length : Int)) = true := decide_eq_true c39
                                                        clear c39
                                                        have H' := Aside0.mk H
                                                        clear H
                                                        have p153 : 0 ≤ ((ji37) : Int) := of_decide_eq_true (by first | (with_reducible assumption) | assumption)
                                                        have q153 : (ji37) < (t140.length : Int) := of_decide_eq_true (by first | (with_reducible assumption) | assumption)
                                                        obtain ⟨ad153, A153_4, c153_4, e153, hx153_0, hx153_1, hx153_2, hx153_3, hx153_4, hl153_4, hi153_4⟩ := at_T34 (Kd.S_reads' HO_5.out).2.2 (ji37) p153 q153
                                                        cases e153
                                                        obtain ⟨ce153, hce153, hMe153, hcc153⟩ := Kd.S_get HO_5.out z34 (ji37) p153 (by first | exact q153 | exact of_decide_eq_true (by first | (with_reducible assumption) | assumption) | (have e_ := (Kd.S_reads' HO_5.out).1; omega))
                                                        obtain ⟨ve153_4, rfl, ge153_4⟩ := k34_openM hMe153
                                                        have hv153_4 := hcc153 4 _ rfl
                                                        rw [add_field _ _ 4 (by omega)] at hv153_4
                                                        replace hv153_4 := Option.some.inj (hv153_4.symm.trans hx153_4)
                                                        rw [hv153_4] at ge153_4
                                                        have HL153_4 := Aside0.mk (show Kd.R Kd.bool 4 _ _ _ _ ((rd_T34 t140 (ji37)).f4) from ge153_4)
                                                        clear hv153_4 ge153_4
                                                        clear hcc153 hce153
                                                        have HR153_4 := Aside0.mk hi153_4
                                                        have HC153_4 := Aside0.mk hl153_4
                                                        clear hi153_4 hl153_4
                                                        replace p153 := eq_true p153
                                                        replace q153 := eq_true q153
                                                        go_wp2
                                                        repeat (go_quiet (fail); try go_wp2)
                                                        go_meet
                                                        case rel => exact ⟨_, (decide (x10_5 < (((rd_T34 t140 (ji37)).f4).length : Int))), (by first | rfl | (simp; done) | (simp only [← hji37] <;> (first | rfl | simp)) | (simp [*]; done)), H', ⟨by have := HK1.out; have := HJ14.out; have := HK3.out; have := HJ26.out; have := HK5.out; first | omega | exact Nat.le_refl _⟩, ⟨by (with_reducible repeat (first | apply Kd.S_alloc | apply Kd.S_drewN | apply Kd.S_drew)); exact HO_5.out⟩, ⟨by repeat (first | (with_reducible first | exact HB.out | apply below_alloc | apply pw_below_drewN | apply below_drew1) | exact HB.out)⟩⟩
                                                      · rw [if_neg c39] at H
                                                        exact absurd H (by simp)
                                                    · rw [if_neg c38] at H
                                                      exact absurd H (by simp)
                                                  · rw [if_neg c36] at H
                                                    have c36b0 : decide (0 < x31_1) = false := decide_eq_false c36
                                                    clear c36
                                                    (first | rw [c36b0] | (simp only [i64_w, i32_w]; rw [c36b0]) | skip)
                                                    have H' := Aside0.mk H
                                                    clear H
                                                    go_wp2
                                                    repeat (go_quiet (fail); try go_wp2)
                                                    go_meet
                                                    case rel => exact ⟨_, (false), (by first | rfl | (simp; done) | (simp [*]; done)), H', ⟨by have := HK1.out; have := HJ14.out; have := HK3.out; have := HJ26.out; have := HK5.out; first | omega | exact Nat.le_refl _⟩, ⟨by (with_reducible repeat (first | apply Kd.S_alloc | apply Kd.S_drewN | apply Kd.S_drew)); exact HO_5.out⟩, ⟨by repeat (first | (with_reducible first | exact HB.out | apply below_alloc | apply pw_below_drewN | apply below_drew1) | exact HB.out)⟩⟩
                                                case rest =>
                                                  clear HC35
                                                  try clear c1
                                                  try clear p1
                                                  try clear q1
                                                  try clear hx1
                                                  try clear c2
                                                  try clear p2
                                                  try clear c3
                                                  try clear c5
                                                  try clear p6
                                                  try clear c7
                                                  try clear c7b0
                                                  try clear c7b1
                                                  try clear c7b2
                                                  try clear c12
                                                  try clear c12b0
                                                  try clear c13
                                                  try clear c13b0
                                                  try clear c14
                                                  try clear c14b0
                                                  try clear p14
                                                  try clear q14
                                                  try clear hx14
                                                  try clear c15
                                                  try clear p15
                                                  try clear q15
                                                  try clear hx15
                                                  try clear c16
                                                  try clear c16b0
                                                  try clear c16b1
                                                  try clear c18
                                                  try clear c18b0
                                                  try clear c19
                                                  try clear c19b0
                                                  try clear c20
                                                  try clear c20b0
                                                  try clear c21
                                                  try clear c21b0
                                                  try clear c22
                                                  try clear c22b0
                                                  try clear c24
                                                  try clear c24b0
                                                  try clear c25
                                                  try clear c25b0
                                                  try clear c26
                                                  try clear c26b0
                                                  try clear c26b1
                                                  try clear c28
                                                  try clear c28b0
                                                  try clear c29
                                                  try clear c29b0
                                                  try clear c30
                                                  try clear c30b0
                                                  try clear c32
                                                  try clear c32b0
                                                  try clear c33
                                                  try clear c33b0
                                                  try clear c34
                                                  try clear c36
                                                  try clear c36b0
                                                  try clear c38
                                                  try clear c38b0
                                                  try clear c39
                                                  try clear c39b0
                                                  try clear hx144_0
                                                  try clear hx144_1
                                                  try clear hx144_2
                                                  try clear hx145_0
                                                  try clear hx145_1
                                                  try clear hx145_2
                                                  try clear hx146_0
                                                  try clear hx146_1
                                                  try clear hx146_2
                                                  try clear hx147_0
                                                  try clear hx148_0
                                                  try clear hx148_1
                                                  try clear hx148_2
                                                  try clear hx149_0
                                                  try clear hx149_1
                                                  try clear hx149_2
                                                  try clear hx150_0
                                                  try clear hx150_1
                                                  try clear hx150_2
                                                  try clear hx150_3
                                                  try clear hx150_4
                                                  try clear hx151_0
                                                  try clear hx151_1
                                                  try clear hx151_2
                                                  try clear hx151_3
                                                  try clear hx151_4
                                                  try clear hx152_0
                                                  try clear hx152_1
                                                  try clear hx152_2
                                                  try clear hx152_3
                                                  try clear hx152_4
                                                  try clear hx153_0
                                                  try clear hx153_1
                                                  try clear hx153_2
                                                  try clear hx153_3
                                                  try clear hx153_4
                                                  try clear p1
                                                  try clear p14
                                                  try clear p144
                                                  try clear p145
                                                  try clear p146
                                                  try clear p147
                                                  try clear p148
                                                  try clear p149
                                                  try clear p15
                                                  try clear p150
                                                  try clear p151
                                                  try clear p152
                                                  try clear p153
                                                  try clear p2
                                                  try clear p6
                                                  try clear q1
                                                  try clear q14
                                                  try clear q144
                                                  try clear q145
                                                  try clear q146
                                                  try clear q147
                                                  try clear q148
                                                  try clear q149
                                                  try clear q15
                                                  try clear q150
                                                  try clear q151
                                                  try clear q152
                                                  try clear q153
                                                  obtain ⟨kq, x109_34, rfl, HA, HJ34, HO_5, HB⟩ := hcut
                                                  cases kq with
                                                  | zero => exact absurd HA.out (by simp [laws_FnMarkGrows.j5])
                                                  | succ kj34 =>
                                                    have H := HA.out
                                                    clear HA
                                                    simp only [laws_FnMarkGrows.j5] at H
                                                    by_cases c40 : x109_34 = true
                                                    · subst c40
                                                      have H1 : (if 0 ≤ (wrap64 (x31_1 - 1)) then (if (wrap64 (x31_1 - 1)) < (t140.length : Int) then (if 0 ≤ x10_5 then (if x10_5 < (((rd_T34 t140 (wrap64 (x31_1 - 1))).f4).length : Int) then (if rdOf false ((rd_T34 t140 (wrap64 (x31_1 - 1))).f4) x10_5 = true then (if 0 ≤ x31_1 then (if x31_1 < (t140.length : Int) then (if (((rd_T34 t140 x31_1).f4).length : Int) ≤ x10_5 then (some false) else (if x10_5 < (((rd_T34 t140 x31_1).f4).length : Int) then (if (rdOf false ((rd_T34 t140 x31_1).f4) x10_5 = true) then (laws_FnMarkGrows.l2 kj34 l0 t140 x6_3 x31_1 (wrap64 (x10_5 + 1)) (t140.length : Int) x31_1) else (some false)) else (none))) else (none)) else (none)) else (laws_FnMarkGrows.l2 kj34 l0 t140 x6_3 x31_1 (wrap64 (x10_5 + 1)) (t140.length : Int) x31_1)) else (none)) else (none)) else (none)) else (none)) = some r := by rw [if_pos rfl] at H; exact H
                                                      clear H
                                                      have H := H1
                                                      clear H1
                                                      obtain ⟨ji41, hji41⟩ : ∃ j_ : Int, (wrap64 (x31_1 - 1)) = j_ := ⟨_, rfl⟩
                                                      replace H : (if 0 ≤ (ji41) then (if (ji41) < (t140.length : Int) then (if 0 ≤ x10_5 then (if x10_5 < (((rd_T34 t140 (ji41)).f4).length : Int) then (if rdOf false ((rd_T34 t140 (ji41)).f4) x10_5 = true then (if 0 ≤ x31_1 then (if x31_1 < (t140.length : Int) then (if (((rd_T34 t140 x31_1).f4).length : Int) ≤ x10_5 then (some false) else (if x10_5 < (((rd_T34 t140 x31_1).f4).length : Int) then (if (rdOf false ((rd_T34 t140 x31_1).f4) x10_5 = true) then (laws_FnMarkGrows.l2 kj34 l0 t140 x6_3 x31_1 (wrap64 (x10_5 + 1)) (t140.length : Int) x31_1) else (some false)) else (none))) else (none)) else (none)) else (laws_FnMarkGrows.l2 kj34 l0 t140 x6_3 x31_1 (wrap64 (x10_5 + 1)) (t140.length : Int) x31_1)) else (none)) else (none)) else (none)) else (none)) = some r := by first | (rw [hji41] at H; exact H) | (simp only [hji41] at H ⊢; exact H)
                                                      have hji41w : (IntKind.i64.wrap (x31_1 - 1)) = ji41 := (i64_w _).trans hji41
                                                      by_cases c42 : 0 ≤ (ji41)
                                                      · rw [if_pos c42] at H
                                                        have c42b0 : decide (0 ≤ (ji41)) = true := decide_eq_true c42
                                                        clear c42
                                                        by_cases c43 : (ji41) < (t140.length : Int)
                                                        · rw [if_pos c43] at H
                                                          have c43b0 : decide ((ji41) < (t140.length : Int)) = true := decide_eq_true c43
                                                          clear c43
                                                          by_cases c44 : 0 ≤ x10_5
                                                          · rw [if_pos c44] at H
                                                            have c44b0 : decide (0 ≤ x10_5) = true := decide_eq_true c44
                                                            clear c44
                                                            by_cases c45 : x10_5 < (((rd_T34 t140 (ji41)).f4).length : Int)
                                                            · rw [if_pos c45] at H
                                                              have c45b0 : decide (x10_5 < (((rd_T34 t140 (ji41)).f4).length : Int)) = true := decide_eq_true c45
                                                              clear c45
                                                              obtain ⟨bq46, hbq46⟩ : ∃ b_ : Bool, b_ = (rdOf false ((rd_T34 t140 (ji41)).f4) x10_5) := ⟨_, rfl⟩
                                                              replace H : (if bq46 = true then (if 0 ≤ x31_1 then (if x31_1 < (t140.length : Int) then (if (((rd_T34 t140 x31_1).f4).length : Int) ≤ x10_5 then (some false) else (if x10_5 < (((rd_T34 t140 x31_1).f4).length : Int) then (if (rdOf false ((rd_T34 t140 x31_1).f4) x10_5 = true) then (laws_FnMarkGrows.l2 kj34 l0 t140 x6_3 x31_1 (wrap64 (x10_5 + 1)) (t140.length : Int) x31_1) else (some false)) else (none))) else (none)) else (none)) else (laws_FnMarkGrows.l2 kj34 l0 t140 x6_3 x31_1 (wrap64 (x10_5 + 1)) (t140.length : Int) x31_1)) = some r := by rw [← hbq46] at H; exact H
                                                              have Nbq46 := Aside0.mk hbq46
                                                              clear hbq46
                                                              by_cases c47 : bq46 = true
                                                              · subst c47
                                                                have H1 : (if 0 ≤ x31_1 then (if x31_1 < (t140.length : Int) then (if (((rd_T34 t140 x31_1).f4).length : Int) ≤ x10_5 then (some false) else (if x10_5 < (((rd_T34 t140 x31_1).f4).length : Int) then (if (rdOf false ((rd_T34 t140 x31_1).f4) x10_5 = true) then (laws_FnMarkGrows.l2 kj34 l0 t140 x6_3 x31_1 (wrap64 (x10_5 + 1)) (t140.length : Int) x31_1) else (some false)) else (none))) else (none)) else (none)) = some r := by rw [if_pos rfl] at H; exact H
                                                                clear H
                                                                have H := H1
                                                                clear H1
                                                                by_cases c48 : 0 ≤ x31_1
                                                                · rw [if_pos c48] at H
                                                                  have c48b0 : decide (0 ≤ x31_1) = true := decide_eq_true c48
                                                                  clear c48
                                                                  by_cases c49 : x31_1 < (t140.length : Int)
                                                                  · rw [if_pos c49] at H
                                                                    have c49b0 : decide (x31_1 < (t140.length : Int)) = true := decide_eq_true c49
                                                                    clear c49
                                                                    by_cases c50 : (((rd_T34 t140 x31_1).f4).length : Int) ≤ x10_5
                                                                    · rw [if_pos c50] at H
                                                                      have c50b0 : decide ((((rd_T34 t140 x31_1).f4).length : Int) ≤ x10_5) = true := decide_eq_true c50
                                                                      clear c50
                                                                      obtain rfl := Option.some.inj H
                                                                      have p154 : 0 ≤ ((ji41) : Int) := of_decide_eq_true (by first | (with_reducible assumption) | assumption)
                                                                      have q154 : (ji41) < (t140.length : Int) := of_decide_eq_true (by first | (with_reducible assumption) | assumption)
                                                                      obtain ⟨ad154, A154_4, c154_4, e154, hx154_0, hx154_1, hx154_2, hx154_3, hx154_4, hl154_4, hi154_4⟩ := at_T34 (Kd.S_reads' HO_5.out).2.2 (ji41) p154 q154
                                                                      cases e154
                                                                      obtain ⟨ce154, hce154, hMe154, hcc154⟩ := Kd.S_get HO_5.out z34 (ji41) p154 (by first | exact q154 | exact of_decide_eq_true (by first | (with_reducible assumption) | assumption) | (have e_ := (Kd.S_reads' HO_5.out).1; omega))
                                                                      obtain ⟨ve154_4, rfl, ge154_4⟩ := k34_openM hMe154
                                                                      have hv154_4 := hcc154 4 _ rfl
                                                                      rw [add_field _ _ 4 (by omega)] at hv154_4
                                                                      replace hv154_4 := Option.some.inj (hv154_4.symm.trans hx154_4)
                                                                      rw [hv154_4] at ge154_4
                                                                      have HL154_4 := Aside0.mk (show Kd.R Kd.bool 4 _ _ _ _ ((rd_T34 t140 (ji41)).f4) from ge154_4)
                                                                      clear hv154_4 ge154_4
                                                                      clear hcc154 hce154
                                                                      have HR154_4 := Aside0.mk hi154_4
                                                                      have HC154_4 := Aside0.mk hl154_4
                                                                      clear hi154_4 hl154_4
                                                                      replace p154 := eq_true p154
                                                                      replace q154 := eq_true q154
                                                                      have p155 : 0 ≤ (x10_5 : Int) := of_decide_eq_true (by first | (with_reducible assumption) | assumption)
                                                                      have q155 : x10_5 < (((rd_T34 t140 (ji41)).f4).length : Int) := of_decide_eq_true (by first | (with_reducible assumption) | assumption)
                                                                      obtain ⟨ad155, e155, hx155_0⟩ := Kd.at_bool (by repeat (first | (with_reducible exact HR154_4.out) | (with_reducible refine Kd.C_alloc ?_ _) | (with_reducible refine Kd.C_drewN ?_ _) | (with_reducible refine Kd.C_drew ?_) | exact HR154_4.out)) x10_5 p155 q155
                                                                      (try rw [← Nbq46.out] at hx155_0)
                                                                      cases e155
                                                                      replace p155 := eq_true p155
                                                                      replace q155 := eq_true q155
                                                                      have p156 : 0 ≤ (x31_1 : Int) := of_decide_eq_true (by first | (with_reducible assumption) | assumption)
                                                                      have q156 : x31_1 < (t140.length : Int) := of_decide_eq_true (by first | (with_reducible assumption) | assumption)
                                                                      obtain ⟨ad156, A156_4, c156_4, e156, hx156_0, hx156_1, hx156_2, hx156_3, hx156_4, hl156_4, hi156_4⟩ := at_T34 (Kd.S_reads' HO_5.out).2.2 x31_1 p156 q156
                                                                      obtain rfl : ad154 = ad156 := (by injection e156)
                                                                      obtain ⟨ce156, hce156, hMe156, hcc156⟩ := Kd.S_get HO_5.out z34 x31_1 p156 (by first | exact q156 | exact of_decide_eq_true (by first | (with_reducible assumption) | assumption) | (have e_ := (Kd.S_reads' HO_5.out).1; omega))
                                                                      obtain ⟨ve156_4, rfl, ge156_4⟩ := k34_openM hMe156
                                                                      have hv156_4 := hcc156 4 _ rfl
                                                                      rw [add_field _ _ 4 (by omega)] at hv156_4
                                                                      replace hv156_4 := Option.some.inj (hv156_4.symm.trans hx156_4)
                                                                      rw [hv156_4] at ge156_4
                                                                      have HL156_4 := Aside0.mk (show Kd.R Kd.bool 4 _ _ _ _ ((rd_T34 t140 x31_1).f4) from ge156_4)
                                                                      clear hv156_4 ge156_4
                                                                      clear hcc156 hce156
                                                                      have HR156_4 := Aside0.mk hi156_4
                                                                      have HC156_4 := Aside0.mk hl156_4
                                                                      clear hi156_4 hl156_4
                                                                      replace p156 := eq_true p156
                                                                      replace q156 := eq_true q156
                                                                      go_wp2
                                                                      repeat (go_quiet (fail); try go_wp2)
                                                                      go_ret
                                                                      exact ⟨by first | rfl | (simp [errW_none, errW_some] <;> rfl) | (simp only [← hji41]; first | rfl | (simp [errW_none, errW_some] <;> rfl)) | (simp [*, errW_none, errW_some] <;> rfl), by repeat (first | (with_reducible first | exact HB.out | apply below_alloc | apply pw_below_drewN | apply below_drew1) | exact HB.out)⟩
                                                                    · rw [if_neg c50] at H
                                                                      have c50b0 : decide ((((rd_T34 t140 x31_1).f4).length : Int) ≤ x10_5) = false := decide_eq_false c50
                                                                      clear c50
                                                                      by_cases c51 : x10_5 < (((rd_T34 t140 x31_1).f4).length : Int)
                                                                      · rw [if_pos c51] at H
                                                                        have c51b0 : decide (x10_5 < (((rd_T34 t140 x31_1).f4).length : Int)) = true := decide_eq_true c51
                                                                        clear c51
                                                                        obtain ⟨bq52, hbq52⟩ : ∃ b_ : Bool, b_ = (rdOf false ((rd_T34 t140 x31_1).f4) x10_5) := ⟨_, rfl⟩
                                                                        replace H : (if (bq52 = true) then (laws_FnMarkGrows.l2 kj34 l0 t140 x6_3 x31_1 (wrap64 (x10_5 + 1)) (t140.length : Int) x31_1) else (some false)) = some r := by rw [← hbq52] at H; exact H
                                                                        have Nbq52 := Aside0.mk hbq52
                                                                        clear hbq52
                                                                        by_cases c53 : (bq52 = true)
                                                                        · subst c53
                                                                          have H1 : (laws_FnMarkGrows.l2 kj34 l0 t140 x6_3 x31_1 (wrap64 (x10_5 + 1)) (t140.length : Int) x31_1) = some r := by rw [if_pos rfl] at H; exact H
                                                                          clear H
                                                                          have H := H1
                                                                          clear H1
                                                                          have H' := Aside0.mk H
                                                                          clear H
                                                                          have p154 : 0 ≤ ((ji41) : Int) := of_decide_eq_true (by first | (with_reducible assumption) | assumption)
                                                                          have q154 : (ji41) < (t140.length : Int) := of_decide_eq_true (by first | (with_reducible assumption) | assumption)
                                                                          obtain ⟨ad154, A154_4, c154_4, e154, hx154_0, hx154_1, hx154_2, hx154_3, hx154_4, hl154_4, hi154_4⟩ := at_T34 (Kd.S_reads' HO_5.out).2.2 (ji41) p154 q154
                                                                          cases e154
                                                                          obtain ⟨ce154, hce154, hMe154, hcc154⟩ := Kd.S_get HO_5.out z34 (ji41) p154 (by first | exact q154 | exact of_decide_eq_true (by first | (with_reducible assumption) | assumption) | (have e_ := (Kd.S_reads' HO_5.out).1; omega))
                                                                          obtain ⟨ve154_4, rfl, ge154_4⟩ := k34_openM hMe154
                                                                          have hv154_4 := hcc154 4 _ rfl
                                                                          rw [add_field _ _ 4 (by omega)] at hv154_4
                                                                          replace hv154_4 := Option.some.inj (hv154_4.symm.trans hx154_4)
                                                                          rw [hv154_4] at ge154_4
                                                                          have HL154_4 := Aside0.mk (show Kd.R Kd.bool 4 _ _ _ _ ((rd_T34 t140 (ji41)).f4) from ge154_4)
                                                                          clear hv154_4 ge154_4
                                                                          clear hcc154 hce154
                                                                          have HR154_4 := Aside0.mk hi154_4
                                                                          have HC154_4 := Aside0.mk hl154_4
                                                                          clear hi154_4 hl154_4
                                                                          replace p154 := eq_true p154
                                                                          replace q154 := eq_true q154
                                                                          have p155 : 0 ≤ (x10_5 : Int) := of_decide_eq_true (by first | (with_reducible assumption) | assumption)
                                                                          have q155 : x10_5 < (((rd_T34 t140 (ji41)).f4).length : Int) := of_decide_eq_true (by first | (with_reducible assumption) | assumption)
                                                                          obtain ⟨ad155, e155, hx155_0⟩ := Kd.at_bool (by repeat (first | (with_reducible exact HR154_4.out) | (with_reducible refine Kd.C_alloc ?_ _) | (with_reducible refine Kd.C_drewN ?_ _) | (with_reducible refine Kd.C_drew ?_) | exact HR154_4.out)) x10_5 p155 q155
                                                                          (try rw [← Nbq46.out] at hx155_0)
                                                                          (try rw [← Nbq52.out] at hx155_0)
                                                                          cases e155
                                                                          replace p155 := eq_true p155
                                                                          replace q155 := eq_true q155
                                                                          have p156 : 0 ≤ (x31_1 : Int) := of_decide_eq_true (by first | (with_reducible assumption) | assumption)
                                                                          have q156 : x31_1 < (t140.length : Int) := of_decide_eq_true (by first | (with_reducible assumption) | assumption)
                                                                          obtain ⟨ad156, A156_4, c156_4, e156, hx156_0, hx156_1, hx156_2, hx156_3, hx156_4, hl156_4, hi156_4⟩ := at_T34 (Kd.S_reads' HO_5.out).2.2 x31_1 p156 q156
                                                                          obtain rfl : ad154 = ad156 := (by injection e156)
                                                                          obtain ⟨ce156, hce156, hMe156, hcc156⟩ := Kd.S_get HO_5.out z34 x31_1 p156 (by first | exact q156 | exact of_decide_eq_true (by first | (with_reducible assumption) | assumption) | (have e_ := (Kd.S_reads' HO_5.out).1; omega))
                                                                          obtain ⟨ve156_4, rfl, ge156_4⟩ := k34_openM hMe156
                                                                          have hv156_4 := hcc156 4 _ rfl
                                                                          rw [add_field _ _ 4 (by omega)] at hv156_4
                                                                          replace hv156_4 := Option.some.inj (hv156_4.symm.trans hx156_4)
                                                                          rw [hv156_4] at ge156_4
                                                                          have HL156_4 := Aside0.mk (show Kd.R Kd.bool 4 _ _ _ _ ((rd_T34 t140 x31_1).f4) from ge156_4)
                                                                          clear hv156_4 ge156_4
                                                                          clear hcc156 hce156
                                                                          have HR156_4 := Aside0.mk hi156_4
                                                                          have HC156_4 := Aside0.mk hl156_4
                                                                          clear hi156_4 hl156_4
                                                                          replace p156 := eq_true p156
                                                                          replace q156 := eq_true q156
                                                                          have p157 : 0 ≤ (x31_1 : Int) := of_decide_eq_true (by first | (with_reducible assumption) | assumption)
                                                                          have q157 : x31_1 < (t140.length : Int) := of_decide_eq_true (by first | (with_reducible assumption) | assumption)
                                                                          obtain ⟨ad157, A157_4, c157_4, e157, hx157_0, hx157_1, hx157_2, hx157_3, hx157_4, hl157_4, hi157_4⟩ := at_T34 (Kd.S_reads' HO_5.out).2.2 x31_1 p157 q157
                                                                          obtain rfl : ad154 = ad157 := (by injection e157)
                                                                          obtain ⟨ce157, hce157, hMe157, hcc157⟩ := Kd.S_get HO_5.out z34 x31_1 p157 (by first | exact q157 | exact of_decide_eq_true (by first | (with_reducible assumption) | assumption) | (have e_ := (Kd.S_reads' HO_5.out).1; omega))
                                                                          obtain ⟨ve157_4, rfl, ge157_4⟩ := k34_openM hMe157
                                                                          have hv157_4 := hcc157 4 _ rfl
                                                                          rw [add_field _ _ 4 (by omega)] at hv157_4
                                                                          replace hv157_4 := Option.some.inj (hv157_4.symm.trans hx157_4)
                                                                          rw [hv157_4] at ge157_4
                                                                          have HL157_4 := Aside0.mk (show Kd.R Kd.bool 4 _ _ _ _ ((rd_T34 t140 x31_1).f4) from ge157_4)
                                                                          clear hv157_4 ge157_4
                                                                          clear hcc157 hce157
                                                                          have HR157_4 := Aside0.mk hi157_4
                                                                          have HC157_4 := Aside0.mk hl157_4
                                                                          clear hi157_4 hl157_4
                                                                          replace p157 := eq_true p157
                                                                          replace q157 := eq_true q157
                                                                          have ea_ := Option.some.inj (hx156_4.symm.trans hx157_4)
                                                                          injection ea_ with ea_ en_ ec_
                                                                          subst ea_
                                                                          subst ec_
                                                                          clear en_
                                                                          have p158 : 0 ≤ (x10_5 : Int) := of_decide_eq_true (by first | (with_reducible assumption) | assumption)
                                                                          have q158 : x10_5 < (((rd_T34 t140 x31_1).f4).length : Int) := of_decide_eq_true (by first | (with_reducible assumption) | assumption)
                                                                          obtain ⟨ad158, e158, hx158_0⟩ := Kd.at_bool (by repeat (first | (with_reducible exact HR157_4.out) | (with_reducible refine Kd.C_alloc ?_ _) | (with_reducible refine Kd.C_drewN ?_ _) | (with_reducible refine Kd.C_drew ?_) | exact HR157_4.out)) x10_5 p158 q158
                                                                          (try rw [← Nbq46.out] at hx158_0)
                                                                          (try rw [← Nbq52.out] at hx158_0)
                                                                          cases e158
                                                                          replace p158 := eq_true p158
                                                                          replace q158 := eq_true q158
                                                                          go_wp2
                                                                          repeat (go_quiet (fail); try go_wp2)
                                                                          go_roundg kj34
                                                                          case measure => have := HK1.out; have := HJ14.out; have := HK3.out; have := HJ26.out; have := HK5.out; have := HJ34.out; omega
                                                                          case rel => exact ⟨(wrap64 (x10_5 + 1)), (by first | rfl | (simp; done) | (simp [*]; done)), H', ⟨by have := HK1.out; have := HJ14.out; have := HK3.out; have := HJ26.out; have := HK5.out; have := HJ34.out; omega⟩, ⟨by (with_reducible repeat (first | apply Kd.S_alloc | apply Kd.S_drewN | apply Kd.S_drew)); exact HO_5.out⟩, ⟨by repeat (first | (with_reducible first | exact HB.out | apply below_alloc | apply pw_below_drewN | apply below_drew1) | exact HB.out)⟩⟩
                                                                        · replace c53 := Bool.eq_false_iff.mpr c53
                                                                          subst c53
                                                                          have H1 : (some false) = some r := by rw [if_neg (show ¬ (false = true) by decide)] at H; exact H
                                                                          clear H
                                                                          have H := H1
                                                                          clear H1
                                                                          obtain rfl := Option.some.inj H
                                                                          have p154 : 0 ≤ ((ji41) : Int) := of_decide_eq_true (by first | (with_reducible assumption) | assumption)
                                                                          have q154 : (ji41) < (t140.length : Int) := of_decide_eq_true (by first | (with_reducible assumption) | assumption)
                                                                          obtain ⟨ad154, A154_4, c154_4, e154, hx154_0, hx154_1, hx154_2, hx154_3, hx154_4, hl154_4, hi154_4⟩ := at_T34 (Kd.S_reads' HO_5.out).2.2 (ji41) p154 q154
                                                                          cases e154
                                                                          obtain ⟨ce154, hce154, hMe154, hcc154⟩ := Kd.S_get HO_5.out z34 (ji41) p154 (by first | exact q154 | exact of_decide_eq_true (by first | (with_reducible assumption) | assumption) | (have e_ := (Kd.S_reads' HO_5.out).1; omega))
                                                                          obtain ⟨ve154_4, rfl, ge154_4⟩ := k34_openM hMe154
                                                                          have hv154_4 := hcc154 4 _ rfl
                                                                          rw [add_field _ _ 4 (by omega)] at hv154_4
                                                                          replace hv154_4 := Option.some.inj (hv154_4.symm.trans hx154_4)
                                                                          rw [hv154_4] at ge154_4
                                                                          have HL154_4 := Aside0.mk (show Kd.R Kd.bool 4 _ _ _ _ ((rd_T34 t140 (ji41)).f4) from ge154_4)
                                                                          clear hv154_4 ge154_4
                                                                          clear hcc154 hce154
                                                                          have HR154_4 := Aside0.mk hi154_4
                                                                          have HC154_4 := Aside0.mk hl154_4
                                                                          clear hi154_4 hl154_4
                                                                          replace p154 := eq_true p154
                                                                          replace q154 := eq_true q154
                                                                          have p155 : 0 ≤ (x10_5 : Int) := of_decide_eq_true (by first | (with_reducible assumption) | assumption)
                                                                          have q155 : x10_5 < (((rd_T34 t140 (ji41)).f4).length : Int) := of_decide_eq_true (by first | (with_reducible assumption) | assumption)
                                                                          obtain ⟨ad155, e155, hx155_0⟩ := Kd.at_bool (by repeat (first | (with_reducible exact HR154_4.out) | (with_reducible refine Kd.C_alloc ?_ _) | (with_reducible refine Kd.C_drewN ?_ _) | (with_reducible refine Kd.C_drew ?_) | exact HR154_4.out)) x10_5 p155 q155
                                                                          (try rw [← Nbq46.out] at hx155_0)
                                                                          (try rw [← Nbq52.out] at hx155_0)
                                                                          cases e155
                                                                          replace p155 := eq_true p155
                                                                          replace q155 := eq_true q155
                                                                          have p156 : 0 ≤ (x31_1 : Int) := of_decide_eq_true (by first | (with_reducible assumption) | assumption)
                                                                          have q156 : x31_1 < (t140.length : Int) := of_decide_eq_true (by first | (with_reducible assumption) | assumption)
                                                                          obtain ⟨ad156, A156_4, c156_4, e156, hx156_0, hx156_1, hx156_2, hx156_3, hx156_4, hl156_4, hi156_4⟩ := at_T34 (Kd.S_reads' HO_5.out).2.2 x31_1 p156 q156
                                                                          obtain rfl : ad154 = ad156 := (by injection e156)
                                                                          obtain ⟨ce156, hce156, hMe156, hcc156⟩ := Kd.S_get HO_5.out z34 x31_1 p156 (by first | exact q156 | exact of_decide_eq_true (by first | (with_reducible assumption) | assumption) | (have e_ := (Kd.S_reads' HO_5.out).1; omega))
                                                                          obtain ⟨ve156_4, rfl, ge156_4⟩ := k34_openM hMe156
                                                                          have hv156_4 := hcc156 4 _ rfl
                                                                          rw [add_field _ _ 4 (by omega)] at hv156_4
                                                                          replace hv156_4 := Option.some.inj (hv156_4.symm.trans hx156_4)
                                                                          rw [hv156_4] at ge156_4
                                                                          have HL156_4 := Aside0.mk (show Kd.R Kd.bool 4 _ _ _ _ ((rd_T34 t140 x31_1).f4) from ge156_4)
                                                                          clear hv156_4 ge156_4
                                                                          clear hcc156 hce156
                                                                          have HR156_4 := Aside0.mk hi156_4
                                                                          have HC156_4 := Aside0.mk hl156_4
                                                                          clear hi156_4 hl156_4
                                                                          replace p156 := eq_true p156
                                                                          replace q156 := eq_true q156
                                                                          have p157 : 0 ≤ (x31_1 : Int) := of_decide_eq_true (by first | (with_reducible assumption) | assumption)
                                                                          have q157 : x31_1 < (t140.length : Int) := of_decide_eq_true (by first | (with_reducible assumption) | assumption)
                                                                          obtain ⟨ad157, A157_4, c157_4, e157, hx157_0, hx157_1, hx157_2, hx157_3, hx157_4, hl157_4, hi157_4⟩ := at_T34 (Kd.S_reads' HO_5.out).2.2 x31_1 p157 q157
                                                                          obtain rfl : ad154 = ad157 := (by injection e157)
                                                                          obtain ⟨ce157, hce157, hMe157, hcc157⟩ := Kd.S_get HO_5.out z34 x31_1 p157 (by first | exact q157 | exact of_decide_eq_true (by first | (with_reducible assumption) | assumption) | (have e_ := (Kd.S_reads' HO_5.out).1; omega))
                                                                          obtain ⟨ve157_4, rfl, ge157_4⟩ := k34_openM hMe157
                                                                          have hv157_4 := hcc157 4 _ rfl
                                                                          rw [add_field _ _ 4 (by omega)] at hv157_4
                                                                          replace hv157_4 := Option.some.inj (hv157_4.symm.trans hx157_4)
                                                                          rw [hv157_4] at ge157_4
                                                                          have HL157_4 := Aside0.mk (show Kd.R Kd.bool 4 _ _ _ _ ((rd_T34 t140 x31_1).f4) from ge157_4)
                                                                          clear hv157_4 ge157_4
                                                                          clear hcc157 hce157
                                                                          have HR157_4 := Aside0.mk hi157_4
                                                                          have HC157_4 := Aside0.mk hl157_4
                                                                          clear hi157_4 hl157_4
                                                                          replace p157 := eq_true p157
                                                                          replace q157 := eq_true q157
                                                                          have ea_ := Option.some.inj (hx156_4.symm.trans hx157_4)
                                                                          injection ea_ with ea_ en_ ec_
                                                                          subst ea_
                                                                          subst ec_
                                                                          clear en_
                                                                          have p158 : 0 ≤ (x10_5 : Int) := of_decide_eq_true (by first | (with_reducible assumption) | assumption)
                                                                          have q158 : x10_5 < (((rd_T34 t140 x31_1).f4).length : Int) := of_decide_eq_true (by first | (with_reducible assumption) | assumption)
                                                                          obtain ⟨ad158, e158, hx158_0⟩ := Kd.at_bool (by repeat (first | (with_reducible exact HR157_4.out) | (with_reducible refine Kd.C_alloc ?_ _) | (with_reducible refine Kd.C_drewN ?_ _) | (with_reducible refine Kd.C_drew ?_) | exact HR157_4.out)) x10_5 p158 q158
                                                                          (try rw [← Nbq46.out] at hx158_0)
                                                                          (try rw [← Nbq52.out] at hx158_0)
                                                                          cases e158
                                                                          replace p158 := eq_true p158
                                                                          replace q158 := eq_true q158
                                                                          go_wp2
                                                                          repeat (go_quiet (fail); try go_wp2)
                                                                          go_ret
                                                                          exact ⟨by first | rfl | (simp [errW_none, errW_some] <;> rfl) | (simp only [← hji41]; first | rfl | (simp [errW_none, errW_some] <;> rfl)) | (simp [*, errW_none, errW_some] <;> rfl), by repeat (first | (with_reducible first | exact HB.out | apply below_alloc | apply pw_below_drewN | apply below_drew1) | exact HB.out)⟩
                                                                      · rw [if_neg c51] at H
                                                                        exact absurd H (by simp)
                                                                  · rw [if_neg c49] at H
                                                                    exact absurd H (by simp)
                                                                · rw [if_neg c48] at H
                                                                  exact absurd H (by simp)
                                                              · replace c47 := Bool.eq_false_iff.mpr c47
                                                                subst c47
                                                                have H1 : (laws_FnMarkGrows.l2 kj34 l0 t140 x6_3 x31_1 (wrap64 (x10_5 + 1)) (t140.length : Int) x31_1) = some r := by rw [if_neg (show ¬ (false = true) by decide)] at H; exact H
                                                                clear H
                                                                have H := H1
                                                                clear H1
                                                                have H' := Aside0.mk H
                                                                clear H
                                                                have p154 : 0 ≤ ((ji41) : Int) := of_decide_eq_true (by first | (with_reducible assumption) | assumption)
                                                                have q154 : (ji41) < (t140.length : Int) := of_decide_eq_true (by first | (with_reducible assumption) | assumption)
                                                                obtain ⟨ad154, A154_4, c154_4, e154, hx154_0, hx154_1, hx154_2, hx154_3, hx154_4, hl154_4, hi154_4⟩ := at_T34 (Kd.S_reads' HO_5.out).2.2 (ji41) p154 q154
                                                                cases e154
                                                                obtain ⟨ce154, hce154, hMe154, hcc154⟩ := Kd.S_get HO_5.out z34 (ji41) p154 (by first | exact q154 | exact of_decide_eq_true (by first | (with_reducible assumption) | assumption) | (have e_ := (Kd.S_reads' HO_5.out).1; omega))
                                                                obtain ⟨ve154_4, rfl, ge154_4⟩ := k34_openM hMe154
                                                                have hv154_4 := hcc154 4 _ rfl
                                                                rw [add_field _ _ 4 (by omega)] at hv154_4
                                                                replace hv154_4 := Option.some.inj (hv154_4.symm.trans hx154_4)
                                                                rw [hv154_4] at ge154_4
                                                                have HL154_4 := Aside0.mk (show Kd.R Kd.bool 4 _ _ _ _ ((rd_T34 t140 (ji41)).f4) from ge154_4)
                                                                clear hv154_4 ge154_4
                                                                clear hcc154 hce154
                                                                have HR154_4 := Aside0.mk hi154_4
                                                                have HC154_4 := Aside0.mk hl154_4
                                                                clear hi154_4 hl154_4
                                                                replace p154 := eq_true p154
                                                                replace q154 := eq_true q154
                                                                have p155 : 0 ≤ (x10_5 : Int) := of_decide_eq_true (by first | (with_reducible assumption) | assumption)
                                                                have q155 : x10_5 < (((rd_T34 t140 (ji41)).f4).length : Int) := of_decide_eq_true (by first | (with_reducible assumption) | assumption)
                                                                obtain ⟨ad155, e155, hx155_0⟩ := Kd.at_bool (by repeat (first | (with_reducible exact HR154_4.out) | (with_reducible refine Kd.C_alloc ?_ _) | (with_reducible refine Kd.C_drewN ?_ _) | (with_reducible refine Kd.C_drew ?_) | exact HR154_4.out)) x10_5 p155 q155
                                                                (try rw [← Nbq46.out] at hx155_0)
                                                                cases e155
                                                                replace p155 := eq_true p155
                                                                replace q155 := eq_true q155
                                                                go_wp2
                                                                repeat (go_quiet (fail); try go_wp2)
                                                                go_roundg kj34
                                                                case measure => have := HK1.out; have := HJ14.out; have := HK3.out; have := HJ26.out; have := HK5.out; have := HJ34.out; omega
                                                                case rel => exact ⟨(wrap64 (x10_5 + 1)), (by first | rfl | (simp; done) | (simp [*]; done)), H', ⟨by have := HK1.out; have := HJ14.out; have := HK3.out; have := HJ26.out; have := HK5.out; have := HJ34.out; omega⟩, ⟨by (with_reducible repeat (first | apply Kd.S_alloc | apply Kd.S_drewN | apply Kd.S_drew)); exact HO_5.out⟩, ⟨by repeat (first | (with_reducible first | exact HB.out | apply below_alloc | apply pw_below_drewN | apply below_drew1) | exact HB.out)⟩⟩
                                                            · rw [if_neg c45] at H
                                                              exact absurd H (by simp)
                                                          · rw [if_neg c44] at H
                                                            exact absurd H (by simp)
                                                        · rw [if_neg c43] at H
                                                          exact absurd H (by simp)
                                                      · rw [if_neg c42] at H
                                                        exact absurd H (by simp)
                                                    · replace c40 := Bool.eq_false_iff.mpr c40
                                                      subst c40
                                                      have H1 : (laws_FnMarkGrows.l0 kj34 l0 t140 x6_3 (t140.length : Int) (wrap64 (x31_1 + 1))) = some r := by rw [if_neg (show ¬ (false = true) by decide)] at H; exact H
                                                      clear H
                                                      have H := H1
                                                      clear H1
                                                      have H' := Aside0.mk H
                                                      clear H
                                                      go_wp2
                                                      repeat (go_quiet (fail); try go_wp2)
                                                      go_roundg kj34
                                                      case measure => have := HK1.out; have := HJ14.out; have := HK3.out; have := HJ26.out; have := HK5.out; have := HJ34.out; omega
                                                      case rel => exact ⟨(x6_3), (wrap64 (x31_1 + 1)), (by first | rfl | (simp; done) | (simp [*]; done)), (by first | rfl | (simp; done) | (simp [*]; done)), H', ⟨by have := HK1.out; have := HJ14.out; have := HK3.out; have := HJ26.out; have := HK5.out; have := HJ34.out; omega⟩, ⟨by (with_reducible repeat (first | apply Kd.S_alloc | apply Kd.S_drewN | apply Kd.S_drew)); exact HO_5.out⟩, ⟨by repeat (first | (with_reducible first | exact HB.out | apply below_alloc | apply pw_below_drewN | apply below_drew1) | exact HB.out)⟩⟩
                                  · rw [if_neg c25] at H
                                    exact absurd H (by simp)
                                · rw [if_neg c24] at H
                                  exact absurd H (by simp)
                        · rw [if_neg c19] at H
                          exact absurd H (by simp)
                      · rw [if_neg c18] at H
                        exact absurd H (by simp)
                · rw [if_neg c14] at H
                  exact absurd H (by simp)
              · rw [if_neg c13] at H
                exact absurd H (by simp)
            · rw [if_neg c12] at H
              have c12b0 : decide (x31_1 < (t140.length : Int)) = false := decide_eq_false c12
              clear c12
              replace H := Option.bind_eq_some_iff.mp H
              obtain ⟨t143, A540, H⟩ := H
              replace H : (some t143) = some r := H
              have A54 := Aside0.mk A540
              clear A540
              obtain rfl := Option.some.inj H
              go_wp2_with (first | (go_at_call 13; (with_reducible refine (laws_marksWork.calls  t143 _ A54.out).mono ?_); rintro e w55 ⟨rfl, hb⟩; have n0_ := Aside0.mk (Kd.S_below (by (with_reducible repeat (first | apply Kd.S_alloc | apply Kd.S_drewN | apply Kd.S_drew)); exact HO_5.out) hb); have n1_ := Aside0.mk (below_step (by repeat (first | (with_reducible first | exact HB.out | apply below_alloc | apply pw_below_drewN | apply below_drew1) | exact HB.out)) hb); clear HO_5; clear HB; have HO_5 := n0_; have HB := n1_; clear n0_ n1_; (try clear hb); (try clear hb2); (try clear hk); (try clear hi)))
              repeat (go_quiet (first | (go_at_call 13; (with_reducible refine (laws_marksWork.calls  t143 _ A54.out).mono ?_); rintro e w55 ⟨rfl, hb⟩; have n0_ := Aside0.mk (Kd.S_below (by (with_reducible repeat (first | apply Kd.S_alloc | apply Kd.S_drewN | apply Kd.S_drew)); exact HO_5.out) hb); have n1_ := Aside0.mk (below_step (by repeat (first | (with_reducible first | exact HB.out | apply below_alloc | apply pw_below_drewN | apply below_drew1) | exact HB.out)) hb); clear HO_5; clear HB; have HO_5 := n0_; have HB := n1_; clear n0_ n1_; (try clear hb); (try clear hb2); (try clear hk); (try clear hi))); try go_wp2_with (first | (go_at_call 13; (with_reducible refine (laws_marksWork.calls  t143 _ A54.out).mono ?_); rintro e w55 ⟨rfl, hb⟩; have n0_ := Aside0.mk (Kd.S_below (by (with_reducible repeat (first | apply Kd.S_alloc | apply Kd.S_drewN | apply Kd.S_drew)); exact HO_5.out) hb); have n1_ := Aside0.mk (below_step (by repeat (first | (with_reducible first | exact HB.out | apply below_alloc | apply pw_below_drewN | apply below_drew1) | exact HB.out)) hb); clear HO_5; clear HB; have HO_5 := n0_; have HB := n1_; clear n0_ n1_; (try clear hb); (try clear hb2); (try clear hk); (try clear hi))))
              go_ret
              exact ⟨by first | rfl | (simp [errW_none, errW_some] <;> rfl) | (simp [*, errW_none, errW_some] <;> rfl), by repeat (first | (with_reducible first | exact HB.out | apply below_alloc | apply pw_below_drewN | apply below_drew1) | exact HB.out)⟩
      · rw [if_neg c7] at H
        have c7b0 : ((t140.length : Int) == (l0.length : Int)) = false := beq_eq_false_iff_ne.mpr c7
        have c7b1 : ((t140.length : Int) != (l0.length : Int)) = true := bne_iff_ne.mpr c7
        have c7b2 : (t140.length == l0.length) = false := by first | simpa using c7 | (simp at c7 ⊢; omega)
        obtain rfl := Option.some.inj H
        go_enter Try.func3, Try.ntmps3
        go_wp2_with (first | (go_at_call 11; (with_reducible refine (laws_zzFits1.calls k _ _ l0 true _ ?side1 ?side2 A2.out).mono ?_); (case side1 => repeat (first | exact HR0.out | (with_reducible refine Kd.C_alloc ?_ _) | (with_reducible refine Kd.C_drewN ?_ _) | (with_reducible refine Kd.C_drew ?_))); (case side2 => exact HC0.out); rintro e w56 ⟨rfl, hb⟩; have n0_ := Aside0.mk (below_step (by repeat (first | (with_reducible first | exact HB.out | apply below_alloc | apply pw_below_drewN | apply below_drew1) | exact HB.out)) hb); clear HB; have HB := n0_; clear n0_; (try clear hb); (try clear hb2); (try clear hk); (try clear hi)) | (go_at_call 12; (with_reducible refine (spec_Marks.calls _ _ l0 t135 true _ ?side1 ?side2 A4.out).mono ?_); (case side1 => repeat (first | exact (Kd.C_below HR0.out HB.out) | (with_reducible refine Kd.C_alloc ?_ _) | (with_reducible refine Kd.C_drewN ?_ _) | (with_reducible refine Kd.C_drew ?_))); (case side2 => exact HC0.out); rintro e w57 ⟨v137, rfl, ho0, hb⟩; have n0_ := Aside0.mk (Kd.S_lower ho0 (below_size (by repeat (first | (with_reducible first | exact HB.out | apply below_alloc | apply pw_below_drewN | apply below_drew1) | exact HB.out)))); have n1_ := Aside0.mk (below_step (by repeat (first | (with_reducible first | exact HB.out | apply below_alloc | apply pw_below_drewN | apply below_drew1) | exact HB.out)) hb); clear HB; have HO138 := n0_; have HB := n1_; clear n0_ n1_; (try clear hb); (try clear hb2); (try clear hk); (try clear hi); (try clear ho0)) | (go_at_call 14; (with_reducible refine (impl_RunMarks.calls _ _ l0 t140 _ ?side1 ?side2 A6.out).mono ?_); (case side1 => repeat (first | exact (Kd.C_below HR0.out HB.out) | (with_reducible refine Kd.C_alloc ?_ _) | (with_reducible refine Kd.C_drewN ?_ _) | (with_reducible refine Kd.C_drew ?_))); (case side2 => exact HC0.out); rintro e w58 ⟨v141, rfl, ho0, hb⟩; have n0_ := Aside0.mk (Kd.S_elder' (by (with_reducible repeat (first | apply Kd.S_alloc | apply Kd.S_drewN | apply Kd.S_drew)); exact HO138.out) (Kd.S_base ho0) hb); have n1_ := Aside0.mk (Kd.S_lower (Kd.S_new' ho0 (Kd.S_lt (by (with_reducible repeat (first | apply Kd.S_alloc | apply Kd.S_drewN | apply Kd.S_drew)); exact HO138.out))) (below_size (by repeat (first | (with_reducible first | exact HB.out | apply below_alloc | apply pw_below_drewN | apply below_drew1) | exact HB.out)))); have n2_ := Aside0.mk (below_step (by repeat (first | (with_reducible first | exact HB.out | apply below_alloc | apply pw_below_drewN | apply below_drew1) | exact HB.out)) hb); clear HO138; clear HB; have HO138 := n0_; have HO142 := n1_; have HB := n2_; clear n0_ n1_ n2_; (try clear hb); (try clear hb2); (try clear hk); (try clear hi); (try clear ho0); obtain ⟨Ao59, co59, eo59⟩ := Kd.S_slice HO142.out; subst eo59))
        repeat (go_quiet (first | (go_at_call 11; (with_reducible refine (laws_zzFits1.calls k _ _ l0 true _ ?side1 ?side2 A2.out).mono ?_); (case side1 => repeat (first | exact HR0.out | (with_reducible refine Kd.C_alloc ?_ _) | (with_reducible refine Kd.C_drewN ?_ _) | (with_reducible refine Kd.C_drew ?_))); (case side2 => exact HC0.out); rintro e w56 ⟨rfl, hb⟩; have n0_ := Aside0.mk (below_step (by repeat (first | (with_reducible first | exact HB.out | apply below_alloc | apply pw_below_drewN | apply below_drew1) | exact HB.out)) hb); clear HB; have HB := n0_; clear n0_; (try clear hb); (try clear hb2); (try clear hk); (try clear hi)) | (go_at_call 12; (with_reducible refine (spec_Marks.calls _ _ l0 t135 true _ ?side1 ?side2 A4.out).mono ?_); (case side1 => repeat (first | exact (Kd.C_below HR0.out HB.out) | (with_reducible refine Kd.C_alloc ?_ _) | (with_reducible refine Kd.C_drewN ?_ _) | (with_reducible refine Kd.C_drew ?_))); (case side2 => exact HC0.out); rintro e w57 ⟨v137, rfl, ho0, hb⟩; have n0_ := Aside0.mk (Kd.S_lower ho0 (below_size (by repeat (first | (with_reducible first | exact HB.out | apply below_alloc | apply pw_below_drewN | apply below_drew1) | exact HB.out)))); have n1_ := Aside0.mk (below_step (by repeat (first | (with_reducible first | exact HB.out | apply below_alloc | apply pw_below_drewN | apply below_drew1) | exact HB.out)) hb); clear HB; have HO138 := n0_; have HB := n1_; clear n0_ n1_; (try clear hb); (try clear hb2); (try clear hk); (try clear hi); (try clear ho0)) | (go_at_call 14; (with_reducible refine (impl_RunMarks.calls _ _ l0 t140 _ ?side1 ?side2 A6.out).mono ?_); (case side1 => repeat (first | exact (Kd.C_below HR0.out HB.out) | (with_reducible refine Kd.C_alloc ?_ _) | (with_reducible refine Kd.C_drewN ?_ _) | (with_reducible refine Kd.C_drew ?_))); (case side2 => exact HC0.out); rintro e w58 ⟨v141, rfl, ho0, hb⟩; have n0_ := Aside0.mk (Kd.S_elder' (by (with_reducible repeat (first | apply Kd.S_alloc | apply Kd.S_drewN | apply Kd.S_drew)); exact HO138.out) (Kd.S_base ho0) hb); have n1_ := Aside0.mk (Kd.S_lower (Kd.S_new' ho0 (Kd.S_lt (by (with_reducible repeat (first | apply Kd.S_alloc | apply Kd.S_drewN | apply Kd.S_drew)); exact HO138.out))) (below_size (by repeat (first | (with_reducible first | exact HB.out | apply below_alloc | apply pw_below_drewN | apply below_drew1) | exact HB.out)))); have n2_ := Aside0.mk (below_step (by repeat (first | (with_reducible first | exact HB.out | apply below_alloc | apply pw_below_drewN | apply below_drew1) | exact HB.out)) hb); clear HO138; clear HB; have HO138 := n0_; have HO142 := n1_; have HB := n2_; clear n0_ n1_ n2_; (try clear hb); (try clear hb2); (try clear hk); (try clear hi); (try clear ho0); obtain ⟨Ao59, co59, eo59⟩ := Kd.S_slice HO142.out; subst eo59)); try go_wp2_with (first | (go_at_call 11; (with_reducible refine (laws_zzFits1.calls k _ _ l0 true _ ?side1 ?side2 A2.out).mono ?_); (case side1 => repeat (first | exact HR0.out | (with_reducible refine Kd.C_alloc ?_ _) | (with_reducible refine Kd.C_drewN ?_ _) | (with_reducible refine Kd.C_drew ?_))); (case side2 => exact HC0.out); rintro e w56 ⟨rfl, hb⟩; have n0_ := Aside0.mk (below_step (by repeat (first | (with_reducible first | exact HB.out | apply below_alloc | apply pw_below_drewN | apply below_drew1) | exact HB.out)) hb); clear HB; have HB := n0_; clear n0_; (try clear hb); (try clear hb2); (try clear hk); (try clear hi)) | (go_at_call 12; (with_reducible refine (spec_Marks.calls _ _ l0 t135 true _ ?side1 ?side2 A4.out).mono ?_); (case side1 => repeat (first | exact (Kd.C_below HR0.out HB.out) | (with_reducible refine Kd.C_alloc ?_ _) | (with_reducible refine Kd.C_drewN ?_ _) | (with_reducible refine Kd.C_drew ?_))); (case side2 => exact HC0.out); rintro e w57 ⟨v137, rfl, ho0, hb⟩; have n0_ := Aside0.mk (Kd.S_lower ho0 (below_size (by repeat (first | (with_reducible first | exact HB.out | apply below_alloc | apply pw_below_drewN | apply below_drew1) | exact HB.out)))); have n1_ := Aside0.mk (below_step (by repeat (first | (with_reducible first | exact HB.out | apply below_alloc | apply pw_below_drewN | apply below_drew1) | exact HB.out)) hb); clear HB; have HO138 := n0_; have HB := n1_; clear n0_ n1_; (try clear hb); (try clear hb2); (try clear hk); (try clear hi); (try clear ho0)) | (go_at_call 14; (with_reducible refine (impl_RunMarks.calls _ _ l0 t140 _ ?side1 ?side2 A6.out).mono ?_); (case side1 => repeat (first | exact (Kd.C_below HR0.out HB.out) | (with_reducible refine Kd.C_alloc ?_ _) | (with_reducible refine Kd.C_drewN ?_ _) | (with_reducible refine Kd.C_drew ?_))); (case side2 => exact HC0.out); rintro e w58 ⟨v141, rfl, ho0, hb⟩; have n0_ := Aside0.mk (Kd.S_elder' (by (with_reducible repeat (first | apply Kd.S_alloc | apply Kd.S_drewN | apply Kd.S_drew)); exact HO138.out) (Kd.S_base ho0) hb); have n1_ := Aside0.mk (Kd.S_lower (Kd.S_new' ho0 (Kd.S_lt (by (with_reducible repeat (first | apply Kd.S_alloc | apply Kd.S_drewN | apply Kd.S_drew)); exact HO138.out))) (below_size (by repeat (first | (with_reducible first | exact HB.out | apply below_alloc | apply pw_below_drewN | apply below_drew1) | exact HB.out)))); have n2_ := Aside0.mk (below_step (by repeat (first | (with_reducible first | exact HB.out | apply below_alloc | apply pw_below_drewN | apply below_drew1) | exact HB.out)) hb); clear HO138; clear HB; have HO138 := n0_; have HO142 := n1_; have HB := n2_; clear n0_ n1_ n2_; (try clear hb); (try clear hb2); (try clear hk); (try clear hi); (try clear ho0); obtain ⟨Ao59, co59, eo59⟩ := Kd.S_slice HO142.out; subst eo59)))
        go_ret
        exact ⟨by first | rfl | (simp [errW_none, errW_some] <;> rfl) | (simp [*, errW_none, errW_some] <;> rfl), by repeat (first | (with_reducible first | exact HB.out | apply below_alloc | apply pw_below_drewN | apply below_drew1) | exact HB.out)⟩
    · replace c5 := Bool.eq_false_iff.mpr c5
      subst c5
      have H1 : ((laws_marksWork.f).bind fun t139 => (some t139)) = some r := by rw [if_neg (show ¬ (false = true) by decide)] at H; exact H
      clear H
      have H := H1
      clear H1
      replace H := Option.bind_eq_some_iff.mp H
      obtain ⟨t139, A600, H⟩ := H
      replace H : (some t139) = some r := H
      have A60 := Aside0.mk A600
      clear A600
      obtain rfl := Option.some.inj H
      go_enter Try.func3, Try.ntmps3
      go_wp2_with (first | (go_at_call 11; (with_reducible refine (laws_zzFits1.calls k _ _ l0 true _ ?side1 ?side2 A2.out).mono ?_); (case side1 => repeat (first | exact HR0.out | (with_reducible refine Kd.C_alloc ?_ _) | (with_reducible refine Kd.C_drewN ?_ _) | (with_reducible refine Kd.C_drew ?_))); (case side2 => exact HC0.out); rintro e w61 ⟨rfl, hb⟩; have n0_ := Aside0.mk (below_step (by repeat (first | (with_reducible first | exact HB.out | apply below_alloc | apply pw_below_drewN | apply below_drew1) | exact HB.out)) hb); clear HB; have HB := n0_; clear n0_; (try clear hb); (try clear hb2); (try clear hk); (try clear hi)) | (go_at_call 12; (with_reducible refine (spec_Marks.calls _ _ l0 t135 false _ ?side1 ?side2 A4.out).mono ?_); (case side1 => repeat (first | exact (Kd.C_below HR0.out HB.out) | (with_reducible refine Kd.C_alloc ?_ _) | (with_reducible refine Kd.C_drewN ?_ _) | (with_reducible refine Kd.C_drew ?_))); (case side2 => exact HC0.out); rintro e w62 ⟨v137, rfl, ho0, hb⟩; have n0_ := Aside0.mk (Kd.S_lower ho0 (below_size (by repeat (first | (with_reducible first | exact HB.out | apply below_alloc | apply pw_below_drewN | apply below_drew1) | exact HB.out)))); have n1_ := Aside0.mk (below_step (by repeat (first | (with_reducible first | exact HB.out | apply below_alloc | apply pw_below_drewN | apply below_drew1) | exact HB.out)) hb); clear HB; have HO138 := n0_; have HB := n1_; clear n0_ n1_; (try clear hb); (try clear hb2); (try clear hk); (try clear hi); (try clear ho0)) | (go_at_call 13; (with_reducible refine (laws_marksWork.calls  t139 _ A60.out).mono ?_); rintro e w63 ⟨rfl, hb⟩; have n0_ := Aside0.mk (Kd.S_below (by (with_reducible repeat (first | apply Kd.S_alloc | apply Kd.S_drewN | apply Kd.S_drew)); exact HO138.out) hb); have n1_ := Aside0.mk (below_step (by repeat (first | (with_reducible first | exact HB.out | apply below_alloc | apply pw_below_drewN | apply below_drew1) | exact HB.out)) hb); clear HO138; clear HB; have HO138 := n0_; have HB := n1_; clear n0_ n1_; (try clear hb); (try clear hb2); (try clear hk); (try clear hi)))
      repeat (go_quiet (first | (go_at_call 11; (with_reducible refine (laws_zzFits1.calls k _ _ l0 true _ ?side1 ?side2 A2.out).mono ?_); (case side1 => repeat (first | exact HR0.out | (with_reducible refine Kd.C_alloc ?_ _) | (with_reducible refine Kd.C_drewN ?_ _) | (with_reducible refine Kd.C_drew ?_))); (case side2 => exact HC0.out); rintro e w61 ⟨rfl, hb⟩; have n0_ := Aside0.mk (below_step (by repeat (first | (with_reducible first | exact HB.out | apply below_alloc | apply pw_below_drewN | apply below_drew1) | exact HB.out)) hb); clear HB; have HB := n0_; clear n0_; (try clear hb); (try clear hb2); (try clear hk); (try clear hi)) | (go_at_call 12; (with_reducible refine (spec_Marks.calls _ _ l0 t135 false _ ?side1 ?side2 A4.out).mono ?_); (case side1 => repeat (first | exact (Kd.C_below HR0.out HB.out) | (with_reducible refine Kd.C_alloc ?_ _) | (with_reducible refine Kd.C_drewN ?_ _) | (with_reducible refine Kd.C_drew ?_))); (case side2 => exact HC0.out); rintro e w62 ⟨v137, rfl, ho0, hb⟩; have n0_ := Aside0.mk (Kd.S_lower ho0 (below_size (by repeat (first | (with_reducible first | exact HB.out | apply below_alloc | apply pw_below_drewN | apply below_drew1) | exact HB.out)))); have n1_ := Aside0.mk (below_step (by repeat (first | (with_reducible first | exact HB.out | apply below_alloc | apply pw_below_drewN | apply below_drew1) | exact HB.out)) hb); clear HB; have HO138 := n0_; have HB := n1_; clear n0_ n1_; (try clear hb); (try clear hb2); (try clear hk); (try clear hi); (try clear ho0)) | (go_at_call 13; (with_reducible refine (laws_marksWork.calls  t139 _ A60.out).mono ?_); rintro e w63 ⟨rfl, hb⟩; have n0_ := Aside0.mk (Kd.S_below (by (with_reducible repeat (first | apply Kd.S_alloc | apply Kd.S_drewN | apply Kd.S_drew)); exact HO138.out) hb); have n1_ := Aside0.mk (below_step (by repeat (first | (with_reducible first | exact HB.out | apply below_alloc | apply pw_below_drewN | apply below_drew1) | exact HB.out)) hb); clear HO138; clear HB; have HO138 := n0_; have HB := n1_; clear n0_ n1_; (try clear hb); (try clear hb2); (try clear hk); (try clear hi))); try go_wp2_with (first | (go_at_call 11; (with_reducible refine (laws_zzFits1.calls k _ _ l0 true _ ?side1 ?side2 A2.out).mono ?_); (case side1 => repeat (first | exact HR0.out | (with_reducible refine Kd.C_alloc ?_ _) | (with_reducible refine Kd.C_drewN ?_ _) | (with_reducible refine Kd.C_drew ?_))); (case side2 => exact HC0.out); rintro e w61 ⟨rfl, hb⟩; have n0_ := Aside0.mk (below_step (by repeat (first | (with_reducible first | exact HB.out | apply below_alloc | apply pw_below_drewN | apply below_drew1) | exact HB.out)) hb); clear HB; have HB := n0_; clear n0_; (try clear hb); (try clear hb2); (try clear hk); (try clear hi)) | (go_at_call 12; (with_reducible refine (spec_Marks.calls _ _ l0 t135 false _ ?side1 ?side2 A4.out).mono ?_); (case side1 => repeat (first | exact (Kd.C_below HR0.out HB.out) | (with_reducible refine Kd.C_alloc ?_ _) | (with_reducible refine Kd.C_drewN ?_ _) | (with_reducible refine Kd.C_drew ?_))); (case side2 => exact HC0.out); rintro e w62 ⟨v137, rfl, ho0, hb⟩; have n0_ := Aside0.mk (Kd.S_lower ho0 (below_size (by repeat (first | (with_reducible first | exact HB.out | apply below_alloc | apply pw_below_drewN | apply below_drew1) | exact HB.out)))); have n1_ := Aside0.mk (below_step (by repeat (first | (with_reducible first | exact HB.out | apply below_alloc | apply pw_below_drewN | apply below_drew1) | exact HB.out)) hb); clear HB; have HO138 := n0_; have HB := n1_; clear n0_ n1_; (try clear hb); (try clear hb2); (try clear hk); (try clear hi); (try clear ho0)) | (go_at_call 13; (with_reducible refine (laws_marksWork.calls  t139 _ A60.out).mono ?_); rintro e w63 ⟨rfl, hb⟩; have n0_ := Aside0.mk (Kd.S_below (by (with_reducible repeat (first | apply Kd.S_alloc | apply Kd.S_drewN | apply Kd.S_drew)); exact HO138.out) hb); have n1_ := Aside0.mk (below_step (by repeat (first | (with_reducible first | exact HB.out | apply below_alloc | apply pw_below_drewN | apply below_drew1) | exact HB.out)) hb); clear HO138; clear HB; have HO138 := n0_; have HB := n1_; clear n0_ n1_; (try clear hb); (try clear hb2); (try clear hk); (try clear hi))))
      go_ret
      exact ⟨by first | rfl | (simp [errW_none, errW_some] <;> rfl) | (simp [*, errW_none, errW_some] <;> rfl), by repeat (first | (with_reducible first | exact HB.out | apply below_alloc | apply pw_below_drewN | apply below_drew1) | exact HB.out)⟩
  · replace c3 := Bool.eq_false_iff.mpr c3
    subst c3
    have H1 : (some true) = some r := by rw [if_neg (show ¬ (false = true) by decide)] at H; exact H
    clear H
    have H := H1
    clear H1
    obtain rfl := Option.some.inj H
    go_enter Try.func3, Try.ntmps3
    go_wp2_with (first | (go_at_call 11; (with_reducible refine (laws_zzFits1.calls k _ _ l0 false _ ?side1 ?side2 A2.out).mono ?_); (case side1 => repeat (first | exact HR0.out | (with_reducible refine Kd.C_alloc ?_ _) | (with_reducible refine Kd.C_drewN ?_ _) | (with_reducible refine Kd.C_drew ?_))); (case side2 => exact HC0.out); rintro e w64 ⟨rfl, hb⟩; have n0_ := Aside0.mk (below_step (by repeat (first | (with_reducible first | exact HB.out | apply below_alloc | apply pw_below_drewN | apply below_drew1) | exact HB.out)) hb); clear HB; have HB := n0_; clear n0_; (try clear hb); (try clear hb2); (try clear hk); (try clear hi)))
    repeat (go_quiet (first | (go_at_call 11; (with_reducible refine (laws_zzFits1.calls k _ _ l0 false _ ?side1 ?side2 A2.out).mono ?_); (case side1 => repeat (first | exact HR0.out | (with_reducible refine Kd.C_alloc ?_ _) | (with_reducible refine Kd.C_drewN ?_ _) | (with_reducible refine Kd.C_drew ?_))); (case side2 => exact HC0.out); rintro e w64 ⟨rfl, hb⟩; have n0_ := Aside0.mk (below_step (by repeat (first | (with_reducible first | exact HB.out | apply below_alloc | apply pw_below_drewN | apply below_drew1) | exact HB.out)) hb); clear HB; have HB := n0_; clear n0_; (try clear hb); (try clear hb2); (try clear hk); (try clear hi))); try go_wp2_with (first | (go_at_call 11; (with_reducible refine (laws_zzFits1.calls k _ _ l0 false _ ?side1 ?side2 A2.out).mono ?_); (case side1 => repeat (first | exact HR0.out | (with_reducible refine Kd.C_alloc ?_ _) | (with_reducible refine Kd.C_drewN ?_ _) | (with_reducible refine Kd.C_drew ?_))); (case side2 => exact HC0.out); rintro e w64 ⟨rfl, hb⟩; have n0_ := Aside0.mk (below_step (by repeat (first | (with_reducible first | exact HB.out | apply below_alloc | apply pw_below_drewN | apply below_drew1) | exact HB.out)) hb); clear HB; have HB := n0_; clear n0_; (try clear hb); (try clear hb2); (try clear hk); (try clear hi))))
    go_ret
    exact ⟨by first | rfl | (simp [errW_none, errW_some] <;> rfl) | (simp [*, errW_none, errW_some] <;> rfl), by repeat (first | (with_reducible first | exact HB.out | apply below_alloc | apply pw_below_drewN | apply below_drew1) | exact HB.out)⟩

end Go.Proofs.Ytimakagmhikhfaa.M
