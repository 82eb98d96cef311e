-- made by stubprint.py
import Derived.Test.YtimakagmhikhfaaMx0
import Derived.Test.YtimakagmhikhfaaMx1
import Derived.Test.YtimakagmhikhfaaMx3
import Derived.Test.YtimakagmhikhfaaMx6
namespace Go.Proofs.Ytimakagmhikhfaa.M
open Go.RowKit Go.Proofs.YtimakagmhikhfaaW.PrintWords Go.Proofs.YtimakagmhikhfaaW.PrintLast Go.Proofs.YtimakagmhikhfaaW.PrintMore
attribute [local go_sem] max2_int min2_int max_two min_two max_three min_three max_four min_four   -- for this text's walks alone
set_option linter.unusedVariables false
set_option linter.unusedSimpArgs false

/-! ### laws_FnMarkSet: function 8 -/
mutual
def laws_FnMarkSet.j0 : Nat → List (S31) → Int → Bool → Option (Bool)
  | 0, _, _, _ => none
  | k + 1, x0, x1, x21 => if x21 = true then ((laws_marksWork.f).bind fun t315 => (some t315)) else ((some (([(⟨4, x1, ([] : List Int)⟩ : S31)] : List (S31)) : List (S31))).bind fun y316 => ((spec_Moved.f k x0 x1).bind fun t319 => (if y316.length + t319.length < 3518437208883 then ((some (y316 ++ t319 : List (S31))).bind fun y322 => ((spec_Marks.f x0).bind fun bt325 => ((spec_Marks.f y322).bind fun bt329 => (if bt325.2 = true then (if bt329.2 = true then (if (x0.length : Int) > 0 then (if 0 < (x0.length : Int) then (laws_FnMarkSet.j1 k x0 x1 y322 (((rd_T31 x0 0).f0) == 4)) else (none)) else (laws_FnMarkSet.j1 k x0 x1 y322 false)) else (laws_FnMarkSet.j1 k x0 x1 y322 true)) else (laws_FnMarkSet.j1 k x0 x1 y322 true))))) else (none))))
def laws_FnMarkSet.j1 : Nat → List (S31) → Int → List (S31) → Bool → Option (Bool)
  | 0, _, _, _, _ => none
  | k + 1, x0, x1, x5, x57 => if x57 = true then ((laws_marksWork.f).bind fun t334 => (some t334)) else ((impl_RunMarks.f x0).bind fun t335 => ((impl_RunMarks.f x5).bind fun t338 => (if (t335.length : Int) = (x0.length : Int) then (laws_FnMarkSet.j2 k x1 t335 t338 ((t338.length : Int) != (wrap64 ((t335.length : Int) + 1)))) else (laws_FnMarkSet.j2 k x1 t335 t338 true))))
def laws_FnMarkSet.j2 : Nat → Int → List (S34) → List (S34) → Bool → Option (Bool)
  | 0, _, _, _, _ => none
  | k + 1, x1, x10, x11, x75 => if x75 = true then (some false) else (laws_FnMarkSet.l0 k x1 x10 x11 (x10.length : Int) 0)
def laws_FnMarkSet.l0 : Nat → Int → List (S34) → List (S34) → Int → Int → Option (Bool)
  | 0, _, _, _, _, _ => none
  | k + 1, x1, x10, x11, x77, x78 => if x78 < x77 then (if 0 ≤ (wrap64 (x78 + 1)) then (if (wrap64 (x78 + 1)) < (x11.length : Int) then (if 0 ≤ x78 then (if x78 < (x10.length : Int) then (if ((rd_T34 x11 (wrap64 (x78 + 1))).f0) = (wrap64 (((rd_T34 x10 x78).f0) + x1)) then (if ((rd_T34 x11 (wrap64 (x78 + 1))).f2) = ((rd_T34 x10 x78).f2) then ((laws_sameBools.f k ((rd_T34 x11 (wrap64 (x78 + 1))).f4) ((rd_T34 x10 x78).f4)).bind fun t347 => (if t347 = true then (laws_FnMarkSet.l0 k x1 x10 x11 x77 (wrap64 (x78 + 1))) else (some false))) else (some false)) else (some false)) else (none)) else (none)) else (none)) else (none)) else ((laws_marksWork.f).bind fun t348 => (some t348))
end
def laws_FnMarkSet.f (k : Nat) (l0 : List (S31)) (a1 : Int) : Option (Bool) := (laws_zzFits1.f k l0).bind fun t314 => (if t314 = true then (if a1 < 0 then (laws_FnMarkSet.j0 k l0 a1 true) else (laws_FnMarkSet.j0 k l0 a1 (decide (a1 > 549755813888)))) else (some true))
theorem laws_FnMarkSet.mono_l : ∀ k, (∀ y0 y1 y2, LeO (laws_FnMarkSet.j0 k y0 y1 y2) (laws_FnMarkSet.j0 (k + 1) y0 y1 y2)) ∧ (∀ y0 y1 y2 y3, LeO (laws_FnMarkSet.j1 k y0 y1 y2 y3) (laws_FnMarkSet.j1 (k + 1) y0 y1 y2 y3)) ∧ (∀ y0 y1 y2 y3, LeO (laws_FnMarkSet.j2 k y0 y1 y2 y3) (laws_FnMarkSet.j2 (k + 1) y0 y1 y2 y3)) ∧ (∀ y0 y1 y2 y3 y4, LeO (laws_FnMarkSet.l0 k y0 y1 y2 y3 y4) (laws_FnMarkSet.l0 (k + 1) y0 y1 y2 y3 y4))
  | 0 => ⟨fun _ _ _ r h => by simp [laws_FnMarkSet.j0] at h, fun _ _ _ _ r h => by simp [laws_FnMarkSet.j1] at h, fun _ _ _ _ r h => by simp [laws_FnMarkSet.j2] at h, fun _ _ _ _ _ r h => by simp [laws_FnMarkSet.l0] at h⟩
  | k + 1 => by
    obtain ⟨ih0, ih1, ih2, ih3⟩ := laws_FnMarkSet.mono_l k
    refine ⟨?_, ?_, ?_, ?_⟩
    · intro y0 y1 y2
      unfold laws_FnMarkSet.j0
      repeat' first
      | (with_reducible exact ih0 _ _ _)
      | (with_reducible exact ih1 _ _ _ _)
      | (with_reducible exact ih2 _ _ _ _)
      | (with_reducible exact ih3 _ _ _ _ _)
      | (with_reducible exact laws_sameBools.mono _ _ _)
      | (with_reducible exact laws_zzFits1.mono _ _)
      | (with_reducible exact spec_Moved.mono _ _ _)
      | (with_reducible exact LeO.refl _)
      | (with_reducible exact LeO.none _)
      | (with_reducible refine LeO.ite ?_ ?_)
      | (with_reducible refine LeO.bind ?_ (fun _ => ?_))
      | exact ih0 _ _ _
      | exact ih1 _ _ _ _
      | exact ih2 _ _ _ _
      | exact ih3 _ _ _ _ _
      | exact laws_sameBools.mono _ _ _
      | exact laws_zzFits1.mono _ _
      | exact spec_Moved.mono _ _ _
      | exact LeO.none _
      | refine LeO.ite ?_ ?_
      | refine LeO.bind ?_ (fun _ => ?_)
    · intro y0 y1 y2 y3
      unfold laws_FnMarkSet.j1
      repeat' first
      | (with_reducible exact ih0 _ _ _)
      | (with_reducible exact ih1 _ _ _ _)
      | (with_reducible exact ih2 _ _ _ _)
      | (with_reducible exact ih3 _ _ _ _ _)
      | (with_reducible exact laws_sameBools.mono _ _ _)
      | (with_reducible exact laws_zzFits1.mono _ _)
      | (with_reducible exact spec_Moved.mono _ _ _)
      | (with_reducible exact LeO.refl _)
      | (with_reducible exact LeO.none _)
      | (with_reducible refine LeO.ite ?_ ?_)
      | (with_reducible refine LeO.bind ?_ (fun _ => ?_))
      | exact ih0 _ _ _
      | exact ih1 _ _ _ _
      | exact ih2 _ _ _ _
      | exact ih3 _ _ _ _ _
      | exact laws_sameBools.mono _ _ _
      | exact laws_zzFits1.mono _ _
      | exact spec_Moved.mono _ _ _
      | exact LeO.none _
      | refine LeO.ite ?_ ?_
      | refine LeO.bind ?_ (fun _ => ?_)
    · intro y0 y1 y2 y3
      unfold laws_FnMarkSet.j2
      repeat' first
      | (with_reducible exact ih0 _ _ _)
      | (with_reducible exact ih1 _ _ _ _)
      | (with_reducible exact ih2 _ _ _ _)
      | (with_reducible exact ih3 _ _ _ _ _)
      | (with_reducible exact laws_sameBools.mono _ _ _)
      | (with_reducible exact laws_zzFits1.mono _ _)
      | (with_reducible exact spec_Moved.mono _ _ _)
      | (with_reducible exact LeO.refl _)
      | (with_reducible exact LeO.none _)
      | (with_reducible refine LeO.ite ?_ ?_)
      | (with_reducible refine LeO.bind ?_ (fun _ => ?_))
      | exact ih0 _ _ _
      | exact ih1 _ _ _ _
      | exact ih2 _ _ _ _
      | exact ih3 _ _ _ _ _
      | exact laws_sameBools.mono _ _ _
      | exact laws_zzFits1.mono _ _
      | exact spec_Moved.mono _ _ _
      | exact LeO.none _
      | refine LeO.ite ?_ ?_
      | refine LeO.bind ?_ (fun _ => ?_)
    · intro y0 y1 y2 y3 y4
      unfold laws_FnMarkSet.l0
      repeat' first
      | (with_reducible exact ih0 _ _ _)
      | (with_reducible exact ih1 _ _ _ _)
      | (with_reducible exact ih2 _ _ _ _)
      | (with_reducible exact ih3 _ _ _ _ _)
      | (with_reducible exact laws_sameBools.mono _ _ _)
      | (with_reducible exact laws_zzFits1.mono _ _)
      | (with_reducible exact spec_Moved.mono _ _ _)
      | (with_reducible exact LeO.refl _)
      | (with_reducible exact LeO.none _)
      | (with_reducible refine LeO.ite ?_ ?_)
      | (with_reducible refine LeO.bind ?_ (fun _ => ?_))
      | exact ih0 _ _ _
      | exact ih1 _ _ _ _
      | exact ih2 _ _ _ _
      | exact ih3 _ _ _ _ _
      | exact laws_sameBools.mono _ _ _
      | exact laws_zzFits1.mono _ _
      | exact spec_Moved.mono _ _ _
      | exact LeO.none _
      | refine LeO.ite ?_ ?_
      | refine LeO.bind ?_ (fun _ => ?_)
theorem laws_FnMarkSet.mono : ∀ a0 a1 k, LeO (laws_FnMarkSet.f k a0 a1) (laws_FnMarkSet.f (k + 1) a0 a1) := by
  intro a0 a1 k
  obtain ⟨ih0, ih1, ih2, ih3⟩ := laws_FnMarkSet.mono_l k
  unfold laws_FnMarkSet.f
  repeat' first
      | (with_reducible exact ih0 _ _ _)
      | (with_reducible exact ih1 _ _ _ _)
      | (with_reducible exact ih2 _ _ _ _)
      | (with_reducible exact ih3 _ _ _ _ _)
      | (with_reducible exact laws_sameBools.mono _ _ _)
      | (with_reducible exact laws_zzFits1.mono _ _)
      | (with_reducible exact spec_Moved.mono _ _ _)
      | (with_reducible exact LeO.refl _)
      | (with_reducible exact LeO.none _)
      | (with_reducible refine LeO.ite ?_ ?_)
      | (with_reducible refine LeO.bind ?_ (fun _ => ?_))
      | exact ih0 _ _ _
      | exact ih1 _ _ _ _
      | exact ih2 _ _ _ _
      | exact ih3 _ _ _ _ _
      | exact laws_sameBools.mono _ _ _
      | exact laws_zzFits1.mono _ _
      | exact spec_Moved.mono _ _ _
      | exact LeO.none _
      | refine LeO.ite ?_ ?_
      | refine LeO.bind ?_ (fun _ => ?_)
def laws_FnMarkSet.T16 : Bool × List (List Nat × List Nat) := (true, [([], []), ([], []), ([1], [1]), ([0, 2], [0, 2]), ([3], [3]), ([4], [4]), ([], []), ([], []), ([6, 7], [6, 7]), ([8], [8]), ([9], [9]), ([], []), ([10, 11], [10, 11]), ([5, 12], [5, 12]), ([13], [13]), ([14], [14]), ([14], [14]), ([16, 14], [14, 16]), ([15, 17, 14], [14, 15, 17]), ([18, 14], [14, 18]), ([19, 14], [14, 19]), ([14], [14]), ([14], [14]), ([21, 22, 14], [14, 21, 22]), ([23, 14], [14, 23]), ([24, 14], [14, 24]), ([20, 25, 14], [14, 20, 25]), ([14, 26], [14, 26]), ([27, 14], [27]), ([28], [28]), ([28], [28]), ([30, 28], [28, 30]), ([29, 31, 28], [28, 29, 31]), ([32, 28], [28, 32]), ([33, 28], [28, 33]), ([28], [28]), ([28], [28]), ([35, 36, 28], [28, 35, 36]), ([37, 28], [28, 37]), ([38, 28], [28, 38]), ([34, 39, 28, 28], [28, 34, 39]), ([40, 28], [28, 40]), ([28, 41], [28, 41])])
def laws_FnMarkSet.B16 : List Nat := [0, 0, 2, 7, 15, 31, 0, 0, 192, 448, 960, 0, 4032, 8191, 16383, 32767, 32767, 98303, 262143, 524287, 1048575, 32767, 32767, 6324223, 14712831, 31490047, 67108863, 134217727, 268435455, 536870911, 536870911, 1610612735, 4294967295, 8589934591, 17179869183, 536870911, 536870911, 103616086015, 241055039487, 515932946431, 1099511627775, 2199023255551, 4398046511103]
theorem laws_FnMarkSet.tab16 : rtab .any (opsOf Try.f8 16) = laws_FnMarkSet.T16 := by kernel_rfl
theorem laws_FnMarkSet.bits16 : waitsOk laws_FnMarkSet.T16.2 laws_FnMarkSet.B16 = true := by kernel_rfl
set_option maxHeartbeats 8000000 in
set_option maxRecDepth 100000 in
theorem laws_FnMarkSet.calls (k : Nat) (A0 : Option Addr) (c0 : Nat) (l0 : List (S31)) (a1 : Int) (r : Bool) (w : World) (hr0 : Kd.C k31 w A0 l0.length l0) (hc0 : l0.length ≤ c0) (h : laws_FnMarkSet.f k l0 a1 = some r) :
    Calls Try.prog 8 #[.slice A0 l0.length c0, .int .i64 a1] w fun e w' => e = .returned (.bool r) ∧ Below w.heap.size w w' := by
  have hu31 := Try.underlying31
  have HR0 := Aside0.mk hr0
  have HC0 := Aside0.mk hc0
  clear hr0 hc0
  have HB := Aside0.mk (Below.refl w.heap.size w)
  have H : ((laws_zzFits1.f k l0).bind fun t314 => (if t314 = true then (if a1 < 0 then (laws_FnMarkSet.j0 k l0 a1 true) else (laws_FnMarkSet.j0 k l0 a1 (decide (a1 > 549755813888)))) else (some true))) = some r := h
  clear h
  replace H := Option.bind_eq_some_iff.mp H
  obtain ⟨t314, A30, H⟩ := H
  replace H : (if t314 = true then (if a1 < 0 then (laws_FnMarkSet.j0 k l0 a1 true) else (laws_FnMarkSet.j0 k l0 a1 (decide (a1 > 549755813888)))) else (some true)) = some r := H
  have A3 := Aside0.mk A30
  clear A30
  by_cases c4 : t314 = true
  · subst c4
    have H1 : (if a1 < 0 then (laws_FnMarkSet.j0 k l0 a1 true) else (laws_FnMarkSet.j0 k l0 a1 (decide (a1 > 549755813888)))) = some r := by rw [if_pos rfl] at H; exact H
    clear H
    have H := H1
    clear H1
    have HC5 := Aside0.mk H
    clear H
    go_enter Try.func8, Try.ntmps8
    go_upto_region 3 with (first | ((with_reducible refine gate_callee (f := 11) rfl ?_); refine goesL_ (some 14) rfl rfl Try.func11 (by kernel_rfl) rfl #[.slice A0 l0.length c0] rfl (by (try simp only [List.map_toArray, List.map_cons, List.map_nil]); first | done | rfl | (simp only [List.length_drop, List.length_take]; rfl)) ?_; (with_reducible refine (laws_zzFits1.calls k _ _ l0 true _ ?side1 ?side2 A3.out).mono ?_); (case side1 => repeat (first | exact HR0.out | (with_reducible refine Kd.C_alloc ?_ _) | (with_reducible refine Kd.C_drewN ?_ _) | (with_reducible refine Kd.C_drew ?_))); (case side2 => exact HC0.out); rintro e w6 ⟨rfl, hb⟩; refine ⟨_, rfl, ?_⟩; have n0_ := Aside0.mk (below_step (by repeat (first | (with_reducible first | exact HB.out | apply below_alloc | apply pw_below_drewN | apply below_drew1) | exact HB.out)) hb); clear HB; have HB := n0_; clear n0_; (try clear hb); (try clear hb2); (try clear hk); (try clear hi)))
    (try simp only [Act.put, List.setIfInBounds_toArray, List.set_cons_zero, List.set_cons_succ])
    go_cut [21] (fun v21 wc => ∃ (kq : Nat) (x21_4 : Bool), v21 = .bool x21_4 ∧ Aside0 (laws_FnMarkSet.j0 kq l0 a1 x21_4 = some r) ∧ Aside0 (kq ≤ k) ∧ Aside0 (Below w.heap.size w wc))
    case first =>
      have H := HC5.out
      clear HC5
      by_cases c7 : a1 < 0
      · rw [if_pos c7] at H
        have c7b0 : decide (a1 < 0) = true := decide_eq_true c7
        clear c7
        (first | rw [c7b0] | (simp only [i64_w, i32_w]; rw [c7b0]) | skip)
        have H' := Aside0.mk H
        clear H
        go_wp2
        go_meet
        case rel => exact ⟨_, (true), (by first | rfl | (simp; done) | (simp [*]; done)), H', ⟨by first | omega | exact Nat.le_refl _⟩, ⟨by repeat (first | (with_reducible first | exact HB.out | apply below_alloc | apply pw_below_drewN | apply below_drew1) | exact HB.out)⟩⟩
      · rw [if_neg c7] at H
        have c7b0 : decide (a1 < 0) = false := decide_eq_false c7
        clear c7
        (first | rw [c7b0] | (simp only [i64_w, i32_w]; rw [c7b0]) | skip)
        have H' := Aside0.mk H
        clear H
        go_wp2
        go_meet
        case rel => exact ⟨_, (decide (a1 > 549755813888)), (by first | rfl | (simp; done) | (simp [*]; done)), H', ⟨by first | omega | exact Nat.le_refl _⟩, ⟨by repeat (first | (with_reducible first | exact HB.out | apply below_alloc | apply pw_below_drewN | apply below_drew1) | exact HB.out)⟩⟩
    case rest =>
      clear HC5
      try clear c1
      try clear p2
      try clear c4
      try clear c7
      try clear c7b0
      obtain ⟨kq, x21_4, rfl, HA, HJ4, HB⟩ := hcut
      cases kq with
      | zero => exact absurd HA.out (by simp [laws_FnMarkSet.j0])
      | succ kj4 =>
        have H := HA.out
        clear HA
        simp only [laws_FnMarkSet.j0] at H
        by_cases c8 : x21_4 = true
        · subst c8
          have H1 : ((laws_marksWork.f).bind fun t315 => (some t315)) = some r := by rw [if_pos rfl] at H; exact H
          clear H
          have H := H1
          clear H1
          replace H := Option.bind_eq_some_iff.mp H
          obtain ⟨t315, A90, H⟩ := H
          replace H : (some t315) = some r := H
          have A9 := Aside0.mk A90
          clear A90
          obtain rfl := Option.some.inj H
          go_wp2_with (first | ((with_reducible refine gate_callee (f := 13) rfl ?_); refine goesL_ (some 22) rfl rfl Try.func13 (by kernel_rfl) rfl #[] rfl (by (try simp only [List.map_toArray, List.map_cons, List.map_nil]); first | done | rfl | (simp only [List.length_drop, List.length_take]; rfl)) ?_; (with_reducible refine (laws_marksWork.calls  t315 _ A9.out).mono ?_); rintro e w10 ⟨rfl, hb⟩; refine ⟨_, rfl, ?_⟩; have n0_ := Aside0.mk (below_step (by repeat (first | (with_reducible first | exact HB.out | apply below_alloc | apply pw_below_drewN | apply below_drew1) | exact HB.out)) hb); clear HB; have HB := n0_; clear n0_; (try clear hb); (try clear hb2); (try clear hk); (try clear hi)))
          go_ret
          exact ⟨by first | rfl | (simp [errW_none, errW_some] <;> rfl) | (simp [*, errW_none, errW_some] <;> rfl), by repeat (first | (with_reducible first | exact HB.out | apply below_alloc | apply pw_below_drewN | apply below_drew1) | exact HB.out)⟩
        · replace c8 := Bool.eq_false_iff.mpr c8
          subst c8
          have H1 : ((some (([(⟨4, a1, ([] : List Int)⟩ : S31)] : List (S31)) : List (S31))).bind fun y316 => ((spec_Moved.f kj4 l0 a1).bind fun t319 => (if y316.length + t319.length < 3518437208883 then ((some (y316 ++ t319 : List (S31))).bind fun y322 => ((spec_Marks.f l0).bind fun bt325 => ((spec_Marks.f y322).bind fun bt329 => (if bt325.2 = true then (if bt329.2 = true then (if (l0.length : Int) > 0 then (if 0 < (l0.length : Int) then (laws_FnMarkSet.j1 kj4 l0 a1 y322 (((rd_T31 l0 0).f0) == 4)) else (none)) else (laws_FnMarkSet.j1 kj4 l0 a1 y322 false)) else (laws_FnMarkSet.j1 kj4 l0 a1 y322 true)) else (laws_FnMarkSet.j1 kj4 l0 a1 y322 true))))) else (none)))) = some r := by rw [if_neg (show ¬ (false = true) by decide)] at H; exact H
          clear H
          have H := H1
          clear H1
          obtain ⟨y316, hy316⟩ : ∃ y_ : List (S31), y_ = (([(⟨4, a1, ([] : List Int)⟩ : S31)] : List (S31))) := ⟨_, rfl⟩
          replace H : ((spec_Moved.f kj4 l0 a1).bind fun t319 => (if y316.length + t319.length < 3518437208883 then ((some (y316 ++ t319 : List (S31))).bind fun y322 => ((spec_Marks.f l0).bind fun bt325 => ((spec_Marks.f y322).bind fun bt329 => (if bt325.2 = true then (if bt329.2 = true then (if (l0.length : Int) > 0 then (if 0 < (l0.length : Int) then (laws_FnMarkSet.j1 kj4 l0 a1 y322 (((rd_T31 l0 0).f0) == 4)) else (none)) else (laws_FnMarkSet.j1 kj4 l0 a1 y322 false)) else (laws_FnMarkSet.j1 kj4 l0 a1 y322 true)) else (laws_FnMarkSet.j1 kj4 l0 a1 y322 true))))) else (none))) = some r := by first | (rw [hy316]; with_reducible exact H) | (have H2_ := (Option.bind_some _ _).symm.trans H; rw [hy316]; with_reducible exact H2_) | (have H2_ := (Option.bind_some _ _).symm.trans H; with_reducible exact H2_) | with_reducible exact H | (rw [hy316]; exact H) | exact H
          have Ny316 := Aside0.mk hy316
          clear hy316
          replace H := Option.bind_eq_some_iff.mp H
          obtain ⟨t319, A110, H⟩ := H
          replace H : (if y316.length + t319.length < 3518437208883 then ((some (y316 ++ t319 : List (S31))).bind fun y322 => ((spec_Marks.f l0).bind fun bt325 => ((spec_Marks.f y322).bind fun bt329 => (if bt325.2 = true then (if bt329.2 = true then (if (l0.length : Int) > 0 then (if 0 < (l0.length : Int) then (laws_FnMarkSet.j1 kj4 l0 a1 y322 (((rd_T31 l0 0).f0) == 4)) else (none)) else (laws_FnMarkSet.j1 kj4 l0 a1 y322 false)) else (laws_FnMarkSet.j1 kj4 l0 a1 y322 true)) else (laws_FnMarkSet.j1 kj4 l0 a1 y322 true))))) else (none)) = some r := H
          have A11 := Aside0.mk A110
          clear A110
          by_cases c12 : y316.length + t319.length < 3518437208883
          · rw [if_pos c12] at H
            have LMc12 := Aside0.mk c12
            clear c12
            obtain ⟨y322, hy322⟩ : ∃ y_ : List (S31), y_ = (y316 ++ t319) := ⟨_, rfl⟩
            replace H : ((spec_Marks.f l0).bind fun bt325 => ((spec_Marks.f y322).bind fun bt329 => (if bt325.2 = true then (if bt329.2 = true then (if (l0.length : Int) > 0 then (if 0 < (l0.length : Int) then (laws_FnMarkSet.j1 kj4 l0 a1 y322 (((rd_T31 l0 0).f0) == 4)) else (none)) else (laws_FnMarkSet.j1 kj4 l0 a1 y322 false)) else (laws_FnMarkSet.j1 kj4 l0 a1 y322 true)) else (laws_FnMarkSet.j1 kj4 l0 a1 y322 true)))) = some r := by first | (rw [hy322]; with_reducible exact H) | (have H2_ := (Option.bind_some _ _).symm.trans H; rw [hy322]; with_reducible exact H2_) | (have H2_ := (Option.bind_some _ _).symm.trans H; with_reducible exact H2_) | with_reducible exact H | (rw [hy322]; exact H) | exact H
            have Ny322 := Aside0.mk hy322
            clear hy322
            replace H := Option.bind_eq_some_iff.mp H
            obtain ⟨⟨t325, t326⟩, A130, H⟩ := H
            replace H : ((spec_Marks.f y322).bind fun bt329 => (if t326 = true then (if bt329.2 = true then (if (l0.length : Int) > 0 then (if 0 < (l0.length : Int) then (laws_FnMarkSet.j1 kj4 l0 a1 y322 (((rd_T31 l0 0).f0) == 4)) else (none)) else (laws_FnMarkSet.j1 kj4 l0 a1 y322 false)) else (laws_FnMarkSet.j1 kj4 l0 a1 y322 true)) else (laws_FnMarkSet.j1 kj4 l0 a1 y322 true))) = some r := H
            have A13 := Aside0.mk A130
            clear A130
            replace H := Option.bind_eq_some_iff.mp H
            obtain ⟨⟨t329, t330⟩, A140, H⟩ := H
            replace H : (if t326 = true then (if t330 = true then (if (l0.length : Int) > 0 then (if 0 < (l0.length : Int) then (laws_FnMarkSet.j1 kj4 l0 a1 y322 (((rd_T31 l0 0).f0) == 4)) else (none)) else (laws_FnMarkSet.j1 kj4 l0 a1 y322 false)) else (laws_FnMarkSet.j1 kj4 l0 a1 y322 true)) else (laws_FnMarkSet.j1 kj4 l0 a1 y322 true)) = some r := H
            have A14 := Aside0.mk A140
            clear A140
            have HC15 := Aside0.mk H
            clear H
            go_upto_region 8 with (first | ((with_reducible refine gate_dst (N := 25) rfl ?_); (try (refine gate_guard (by rfl) ?_; dsimp only)); refine Kd.N_lit k31 _ 31 ?hg (N' := 25) ?hd (xs := ([(⟨4, a1, ([] : List Int)⟩ : S31)] : List (S31))) (inner := [.int .i64 4, .int .i64 a1, .slice none 0 0]) (ok := (fun _ => True)) (okp := (fun _ => True)) ?hr ?hp (fun _ hk => hk) ((show ∀ k_, wc.heap.size ≤ k_ → (fun _ => True) k_ from fun k_ hk => trivial) _ (Nat.le_refl _)) (Below.refl _ _) (Nat.le_refl _) (by simp) ?_; (case hd => rfl); (case hg => rfl); (case hr => first | (go_simp; done) | (go_simp; rfl)); (case hp => exact (Reps.c3 (show Kd.FK k31 _ _ (⟨4, a1, ([] : List Int)⟩ : S31) [.int .i64 4, .int .i64 a1, .slice none 0 0] from (k31_mkF _ _ (⟨4, a1, ([] : List Int)⟩ : S31) (Nat.le_refl _) (Kd.F_nil _ _ _))) (Reps.none _ _))); intro v317 w16 ho17 hb hg_ hnew_; clear hg_ hnew_; (first | rw [← Ny316.out] at ho17 | (simp only [Int.reduceToNat] at ho17; rw [← Ny316.out] at ho17)); have n0_ := Aside0.mk (Kd.N_lower ho17 (below_size (by repeat (first | (with_reducible first | exact HB.out | apply below_alloc | apply pw_below_drewN | apply below_drew1) | exact HB.out)))); have n1_ := Aside0.mk (below_step (by repeat (first | (with_reducible first | exact HB.out | apply below_alloc | apply pw_below_drewN | apply below_drew1) | exact HB.out)) hb); clear HB; have HO318 := n0_; have HB := n1_; clear n0_ n1_; clear hb ho17) | ((with_reducible refine gate_callee (f := 19) rfl ?_); refine goesL_ (some 28) rfl rfl Try.func19 (by kernel_rfl) rfl #[.slice A0 l0.length c0, .int .i64 a1] rfl (by (try simp only [List.map_toArray, List.map_cons, List.map_nil]); first | done | rfl | (simp only [List.length_drop, List.length_take]; rfl)) ?_; (with_reducible refine (spec_Moved.calls kj4 _ _ l0 a1 t319 _ ?side1 ?side2 A11.out).mono ?_); (case side1 => repeat (first | exact (Kd.C_below HR0.out HB.out) | (with_reducible refine Kd.C_alloc ?_ _) | (with_reducible refine Kd.C_drewN ?_ _) | (with_reducible refine Kd.C_drew ?_))); (case side2 => exact HC0.out); rintro e w18 ⟨v320, rfl, ho0, hb⟩; refine ⟨_, rfl, ?_⟩; have n0_ := Aside0.mk (Kd.N_elder' (by (with_reducible repeat (first | apply Kd.N_alloc | apply Kd.N_drewN | apply Kd.N_drew)); exact HO318.out) (by first | exact Kd.N_base ho0 | exact Kd.N_base (Kd.S_N ho0)) hb); have n1_ := Aside0.mk (Kd.N_lower (Kd.N_mono (ok' := fun k_ => some k_ ≠ (v317 : Value).ownBlock) (Kd.S_N (Kd.S_bound ho0)) (fun k_ hk_ => (Kd.fresh' (Kd.N_lt (by (with_reducible repeat (first | apply Kd.N_alloc | apply Kd.N_drewN | apply Kd.N_drew)); exact HO318.out)) k_ hk_.2.1))) (below_size (by repeat (first | (with_reducible first | exact HB.out | apply below_alloc | apply pw_below_drewN | apply below_drew1) | exact HB.out)))); have n2_ := Aside0.mk (below_step (by repeat (first | (with_reducible first | exact HB.out | apply below_alloc | apply pw_below_drewN | apply below_drew1) | exact HB.out)) hb); clear HO318; clear HB; have HO318 := n0_; have HO321 := n1_; have HB := n2_; clear n0_ n1_ n2_; (try clear hb); (try clear hb2); (try clear hk); (try clear hi); (try clear ho0); obtain ⟨Ao20, co20, eo20⟩ := Kd.N_slice HO321.out; subst eo20) | ((with_reducible refine gate_builtin (b := .append) (xs := #[.tmp 25, .tmp 28]) rfl ?_); (try (refine gate_guard (by rfl) ?_; dsimp only)); at_builtin; refine Kd.N_append_rows k31 (w0 := w) w.heap.size rfl (.tmp 25) (.tmp 28) 22 31 (.agg #[(.int .i64 0), (.int .i64 0), (.slice none 0 0)]) 40 rfl Try.underlying22 info31 rfl (by decide) (by omega) v317 y316 t319 _ _ _ (fun _ => True) (fun k_ => ((fun _ => True)) k_ ∧ some k_ ≠ (v317 : Value).ownBlock) rfl rfl ?aO ?aR (fun _ hk => hk) ?aF ?aB ?aS ?aL ?_; (case aR => exact (by skip; exact Kd.N_F (Kd.N_mono (ok' := (fun k_ => ((fun _ => True)) k_ ∧ some k_ ≠ (v317 : Value).ownBlock)) (HO321.out) (fun k_ hk => ⟨trivial, hk⟩)))); (case aB => exact (by repeat (first | (with_reducible first | exact HB.out | apply below_alloc | apply pw_below_drewN | apply below_drew1) | exact HB.out))); (case aF => exact (fun _ _ => trivial)); (case aO => exact (by (with_reducible repeat (first | apply Kd.N_alloc | apply Kd.N_drewN | apply Kd.N_drew)); exact Kd.N_mono HO318.out (fun _ hk => trivial))); (case aS => exact (below_size (by repeat (first | (with_reducible first | exact HB.out | apply below_alloc | apply pw_below_drewN | apply below_drew1) | exact HB.out)))); (case aL => have := LMc12.out; omega); intro v323 w19 ho hb hg hat; rw [← Ny322.out] at ho; have n0_ := Aside0.mk (Kd.N_afterv (ok := (fun _ => True)) (by (with_reducible repeat (first | apply Kd.N_alloc | apply Kd.N_drewN | apply Kd.N_drew)); exact Kd.N_mono HO321.out (fun _ hk => ⟨trivial, hk⟩)) hg hat); have n1_ := Aside0.mk (hb); have n2_ := Aside0.mk (ho); clear HO321; clear HB; clear HO318; have HO321 := n0_; have HB := n1_; have HO324 := n2_; clear n0_ n1_ n2_; clear ho hb hg hat) | ((with_reducible refine gate_callee (f := 12) rfl ?_); refine goesL_ (some 32) rfl rfl Try.func12 (by kernel_rfl) rfl #[.slice A0 l0.length c0] rfl (by (try simp only [List.map_toArray, List.map_cons, List.map_nil]); first | done | rfl | (simp only [List.length_drop, List.length_take]; rfl)) ?_; (with_reducible refine (spec_Marks.calls _ _ l0 t325 t326 _ ?side1 ?side2 A13.out).mono ?_); (case side1 => repeat (first | exact (Kd.C_below HR0.out HB.out) | (with_reducible refine Kd.C_alloc ?_ _) | (with_reducible refine Kd.C_drewN ?_ _) | (with_reducible refine Kd.C_drew ?_))); (case side2 => exact HC0.out); rintro e w21 ⟨v327, rfl, ho0, hb⟩; refine ⟨_, rfl, ?_⟩; have n0_ := Aside0.mk (Kd.N_elder' (by (with_reducible repeat (first | apply Kd.N_alloc | apply Kd.N_drewN | apply Kd.N_drew)); exact HO321.out) (by first | exact Kd.N_base ho0 | exact Kd.N_base (Kd.S_N ho0)) hb); have n1_ := Aside0.mk (Kd.N_elder' (by (with_reducible repeat (first | apply Kd.N_alloc | apply Kd.N_drewN | apply Kd.N_drew)); exact HO324.out) (by first | exact Kd.N_base ho0 | exact Kd.N_base (Kd.S_N ho0)) hb); have n2_ := Aside0.mk (Kd.N_lower (Kd.N_mono (ok' := fun k_ => some k_ ≠ (.slice Ao20 t319.length co20 : Value).ownBlock ∧ some k_ ≠ (v323 : Value).ownBlock) (Kd.S_N (Kd.S_bound ho0)) (fun k_ hk_ => ⟨(Kd.fresh' (Kd.N_lt (by (with_reducible repeat (first | apply Kd.N_alloc | apply Kd.N_drewN | apply Kd.N_drew)); exact HO321.out)) k_ hk_.2.1), (Kd.fresh' (Kd.N_lt (by (with_reducible repeat (first | apply Kd.N_alloc | apply Kd.N_drewN | apply Kd.N_drew)); exact HO324.out)) k_ hk_.2.1)⟩)) (below_size (by repeat (first | (with_reducible first | exact HB.out | apply below_alloc | apply pw_below_drewN | apply below_drew1) | exact HB.out)))); have n3_ := Aside0.mk (below_step (by repeat (first | (with_reducible first | exact HB.out | apply below_alloc | apply pw_below_drewN | apply below_drew1) | exact HB.out)) hb); clear HO321; clear HO324; clear HB; have HO321 := n0_; have HO324 := n1_; have HO328 := n2_; have HB := n3_; clear n0_ n1_ n2_ n3_; (try clear hb); (try clear hb2); (try clear hk); (try clear hi); (try clear ho0); obtain ⟨Ao22, co22, eo22⟩ := Kd.N_slice HO324.out; subst eo22) | ((with_reducible refine gate_callee (f := 12) rfl ?_); refine goesL_ (some 37) rfl rfl Try.func12 (by kernel_rfl) rfl #[.slice Ao22 y322.length co22] rfl (by (try simp only [List.map_toArray, List.map_cons, List.map_nil]); first | done | rfl | (simp only [List.length_drop, List.length_take]; rfl)) ?_; (with_reducible refine (spec_Marks.calls _ _ y322 t329 t330 _ ?side1 ?side2 A14.out).mono ?_); (case side1 => repeat (first | exact (Kd.N_reads' HO324.out).2.2 | (with_reducible refine Kd.C_alloc ?_ _) | (with_reducible refine Kd.C_drewN ?_ _) | (with_reducible refine Kd.C_drew ?_))); (case side2 => exact (Kd.N_reads' HO324.out).2.1); rintro e w23 ⟨v331, rfl, ho0, hb⟩; refine ⟨_, rfl, ?_⟩; have n0_ := Aside0.mk (Kd.N_elder' (by (with_reducible repeat (first | apply Kd.N_alloc | apply Kd.N_drewN | apply Kd.N_drew)); exact HO321.out) (by first | exact Kd.N_base ho0 | exact Kd.N_base (Kd.S_N ho0)) hb); have n1_ := Aside0.mk (Kd.N_elder' (by (with_reducible repeat (first | apply Kd.N_alloc | apply Kd.N_drewN | apply Kd.N_drew)); exact HO324.out) (by first | exact Kd.N_base ho0 | exact Kd.N_base (Kd.S_N ho0)) hb); have n2_ := Aside0.mk (Kd.N_elder' (by (with_reducible repeat (first | apply Kd.N_alloc | apply Kd.N_drewN | apply Kd.N_drew)); exact HO328.out) (by first | exact Kd.N_base ho0 | exact Kd.N_base (Kd.S_N ho0)) hb); have n3_ := Aside0.mk (Kd.N_lower (Kd.N_mono (ok' := fun k_ => some k_ ≠ (.slice Ao20 t319.length co20 : Value).ownBlock ∧ some k_ ≠ (.slice Ao22 y322.length co22 : Value).ownBlock ∧ some k_ ≠ (v327 : Value).ownBlock) (Kd.S_N (Kd.S_bound ho0)) (fun k_ hk_ => ⟨(Kd.fresh' (Kd.N_lt (by (with_reducible repeat (first | apply Kd.N_alloc | apply Kd.N_drewN | apply Kd.N_drew)); exact HO321.out)) k_ hk_.2.1), (Kd.fresh' (Kd.N_lt (by (with_reducible repeat (first | apply Kd.N_alloc | apply Kd.N_drewN | apply Kd.N_drew)); exact HO324.out)) k_ hk_.2.1), (Kd.fresh' (Kd.N_lt (by (with_reducible repeat (first | apply Kd.N_alloc | apply Kd.N_drewN | apply Kd.N_drew)); exact HO328.out)) k_ hk_.2.1)⟩)) (below_size (by repeat (first | (with_reducible first | exact HB.out | apply below_alloc | apply pw_below_drewN | apply below_drew1) | exact HB.out)))); have n4_ := Aside0.mk (below_step (by repeat (first | (with_reducible first | exact HB.out | apply below_alloc | apply pw_below_drewN | apply below_drew1) | exact HB.out)) hb); clear HO321; clear HO324; clear HO328; clear HB; have HO321 := n0_; have HO324 := n1_; have HO328 := n2_; have HO332 := n3_; have HB := n4_; clear n0_ n1_ n2_ n3_ n4_; (try clear hb); (try clear hb2); (try clear hk); (try clear hi); (try clear ho0)))
            (try simp only [Act.put, List.setIfInBounds_toArray, List.set_cons_zero, List.set_cons_succ])
            go_cut [57] (fun v57 wc => ∃ (kq : Nat) (x57_14 : Bool), v57 = .bool x57_14 ∧ Aside0 (laws_FnMarkSet.j1 kq l0 a1 y322 x57_14 = some r) ∧ Aside0 (kq ≤ kj4) ∧ Aside0 (Kd.N k31 31 wc w.heap.size (fun _ => True) (.slice Ao22 y322.length co22) y322) ∧ Aside0 (Below w.heap.size w wc))
            case first =>
              have H := HC15.out
              clear HC15
              by_cases c24 : t326 = true
              · subst c24
                have H1 : (if t330 = true then (if (l0.length : Int) > 0 then (if 0 < (l0.length : Int) then (laws_FnMarkSet.j1 kj4 l0 a1 y322 (((rd_T31 l0 0).f0) == 4)) else (none)) else (laws_FnMarkSet.j1 kj4 l0 a1 y322 false)) else (laws_FnMarkSet.j1 kj4 l0 a1 y322 true)) = some r := by rw [if_pos rfl] at H; exact H
                clear H
                have H := H1
                clear H1
                by_cases c25 : t330 = true
                · subst c25
                  have H1 : (if (l0.length : Int) > 0 then (if 0 < (l0.length : Int) then (laws_FnMarkSet.j1 kj4 l0 a1 y322 (((rd_T31 l0 0).f0) == 4)) else (none)) else (laws_FnMarkSet.j1 kj4 l0 a1 y322 false)) = some r := by rw [if_pos rfl] at H; exact H
                  clear H
                  have H := H1
                  clear H1
                  by_cases c26 : (l0.length : Int) > 0
                  · rw [if_pos c26] at H
                    have c26b0 : decide (0 < (l0.length : Int)) = true := decide_eq_true c26
                    have c26b1 : decide (0 < l0.length) = true := decide_eq_true (by omega)
                    clear c26
                    (first | rw [c26b0] | (simp only [i64_w, i32_w]; rw [c26b0]) | skip)
                    by_cases c27 : 0 < (l0.length : Int)
                    · rw [if_pos c27] at H
                      have c27b0 : decide (0 < (l0.length : Int)) = true := decide_eq_true c27
                      have c27b1 : decide (0 < l0.length) = true := decide_eq_true (by omega)
                      clear c27
                      have H' := Aside0.mk H
                      clear H
                      have p333 : 0 ≤ (0 : Int) := (by omega)
                      have q333 : 0 < (l0.length : Int) := of_decide_eq_true (by first | (with_reducible assumption) | assumption)
                      obtain ⟨ad333, A333_2, c333_2, e333, hx333_0, hx333_1, hx333_2, hl333_2, hi333_2⟩ := at_T31 HR0.out 0 p333 q333
                      cases e333
                      have qi333 : (0 < l0.length) = True := eq_true (by omega)
                      (try rw [show ((0 : Int)).toNat = 0 from rfl] at hx333_0)
                      (try rw [show 0 * 3 = 0 from rfl] at hx333_0)
                      (try rw [Addr.add_zero'] at hx333_0)
                      (try rw [show ((0 : Int)).toNat = 0 from rfl] at hx333_1)
                      (try rw [show 0 * 3 = 0 from rfl] at hx333_1)
                      (try rw [Addr.add_zero'] at hx333_1)
                      (try rw [show ((0 : Int)).toNat = 0 from rfl] at hx333_2)
                      (try rw [show 0 * 3 = 0 from rfl] at hx333_2)
                      (try rw [Addr.add_zero'] at hx333_2)
                      replace hx333_0 := (HB.out.cell (World.block_lt_of_cell? w _ hx333_0)).trans hx333_0
                      replace hx333_1 := (HB.out.cell (World.block_lt_of_cell? w _ hx333_1)).trans hx333_1
                      replace hx333_2 := (HB.out.cell (World.block_lt_of_cell? w _ hx333_2)).trans hx333_2
                      have HR333_2 := Aside0.mk hi333_2
                      have HC333_2 := Aside0.mk hl333_2
                      clear hi333_2 hl333_2
                      replace p333 := eq_true p333
                      replace q333 := eq_true q333
                      go_wp2
                      go_meet
                      case rel => exact ⟨_, ((((rd_T31 l0 0).f0) == 4)), (by first | rfl | (simp; done) | (simp [*]; done)), H', ⟨by have := HJ4.out; first | omega | exact Nat.le_refl _⟩, ⟨by (with_reducible repeat (first | apply Kd.N_alloc | apply Kd.N_drewN | apply Kd.N_drew)); exact Kd.N_mono HO324.out (fun _ hk => trivial)⟩, ⟨by repeat (first | (with_reducible first | exact HB.out | apply below_alloc | apply pw_below_drewN | apply below_drew1) | exact HB.out)⟩⟩
                    · rw [if_neg c27] at H
                      exact absurd H (by simp)
                  · rw [if_neg c26] at H
                    have c26b0 : decide (0 < (l0.length : Int)) = false := decide_eq_false c26
                    have c26b1 : decide (0 < l0.length) = false := decide_eq_false (by omega)
                    clear c26
                    (first | rw [c26b0] | (simp only [i64_w, i32_w]; rw [c26b0]) | skip)
                    have H' := Aside0.mk H
                    clear H
                    go_wp2
                    go_meet
                    case rel => exact ⟨_, (false), (by first | rfl | (simp; done) | (simp [*]; done)), H', ⟨by have := HJ4.out; first | omega | exact Nat.le_refl _⟩, ⟨by (with_reducible repeat (first | apply Kd.N_alloc | apply Kd.N_drewN | apply Kd.N_drew)); exact Kd.N_mono HO324.out (fun _ hk => trivial)⟩, ⟨by repeat (first | (with_reducible first | exact HB.out | apply below_alloc | apply pw_below_drewN | apply below_drew1) | exact HB.out)⟩⟩
                · replace c25 := Bool.eq_false_iff.mpr c25
                  subst c25
                  have H1 : (laws_FnMarkSet.j1 kj4 l0 a1 y322 true) = some r := by rw [if_neg (show ¬ (false = true) by decide)] at H; exact H
                  clear H
                  have H := H1
                  clear H1
                  have H' := Aside0.mk H
                  clear H
                  go_wp2
                  go_meet
                  case rel => exact ⟨_, (true), (by first | rfl | (simp; done) | (simp [*]; done)), H', ⟨by have := HJ4.out; first | omega | exact Nat.le_refl _⟩, ⟨by (with_reducible repeat (first | apply Kd.N_alloc | apply Kd.N_drewN | apply Kd.N_drew)); exact Kd.N_mono HO324.out (fun _ hk => trivial)⟩, ⟨by repeat (first | (with_reducible first | exact HB.out | apply below_alloc | apply pw_below_drewN | apply below_drew1) | exact HB.out)⟩⟩
              · replace c24 := Bool.eq_false_iff.mpr c24
                subst c24
                have H1 : (laws_FnMarkSet.j1 kj4 l0 a1 y322 true) = some r := by rw [if_neg (show ¬ (false = true) by decide)] at H; exact H
                clear H
                have H := H1
                clear H1
                have H' := Aside0.mk H
                clear H
                go_wp2
                go_meet
                case rel => exact ⟨_, (true), (by first | rfl | (simp; done) | (simp [*]; done)), H', ⟨by have := HJ4.out; first | omega | exact Nat.le_refl _⟩, ⟨by (with_reducible repeat (first | apply Kd.N_alloc | apply Kd.N_drewN | apply Kd.N_drew)); exact Kd.N_mono HO324.out (fun _ hk => trivial)⟩, ⟨by repeat (first | (with_reducible first | exact HB.out | apply below_alloc | apply pw_below_drewN | apply below_drew1) | exact HB.out)⟩⟩
            case rest =>
              clear HC15
              try clear c1
              try clear c2
              try clear p2
              try clear c3
              try clear p3
              try clear q3
              try clear hx3
              try clear qi3
              try clear c4
              try clear c7
              try clear c7b0
              try clear c8
              try clear c11
              try clear c12
              try clear c13
              try clear c19
              try clear c24
              try clear c25
              try clear c26
              try clear c26b0
              try clear c26b1
              try clear c27
              try clear c27b0
              try clear c27b1
              try clear hx333_0
              try clear hx333_1
              try clear hx333_2
              try clear p2
              try clear p333
              try clear q333
              obtain ⟨kq, x57_14, rfl, HA, HJ14, HO_5, HB⟩ := hcut
              cases kq with
              | zero => exact absurd HA.out (by simp [laws_FnMarkSet.j1])
              | succ kj14 =>
                have H := HA.out
                clear HA
                simp only [laws_FnMarkSet.j1] at H
                by_cases c28 : x57_14 = true
                · subst c28
                  have H1 : ((laws_marksWork.f).bind fun t334 => (some t334)) = some r := by rw [if_pos rfl] at H; exact H
                  clear H
                  have H := H1
                  clear H1
                  replace H := Option.bind_eq_some_iff.mp H
                  obtain ⟨t334, A290, H⟩ := H
                  replace H : (some t334) = some r := H
                  have A29 := Aside0.mk A290
                  clear A290
                  obtain rfl := Option.some.inj H
                  go_wp2_with (first | ((with_reducible refine gate_callee (f := 13) rfl ?_); refine goesL_ (some 58) rfl rfl Try.func13 (by kernel_rfl) rfl #[] rfl (by (try simp only [List.map_toArray, List.map_cons, List.map_nil]); first | done | rfl | (simp only [List.length_drop, List.length_take]; rfl)) ?_; (with_reducible refine (laws_marksWork.calls  t334 _ A29.out).mono ?_); rintro e w30 ⟨rfl, hb⟩; refine ⟨_, rfl, ?_⟩; have n0_ := Aside0.mk (Kd.N_below (by (with_reducible repeat (first | apply Kd.N_alloc | apply Kd.N_drewN | apply Kd.N_drew)); exact HO_5.out) hb); have n1_ := Aside0.mk (below_step (by repeat (first | (with_reducible first | exact HB.out | apply below_alloc | apply pw_below_drewN | apply below_drew1) | exact HB.out)) hb); clear HO_5; clear HB; have HO_5 := n0_; have HB := n1_; clear n0_ n1_; (try clear hb); (try clear hb2); (try clear hk); (try clear hi)))
                  go_ret
                  exact ⟨by first | rfl | (simp [errW_none, errW_some] <;> rfl) | (simp [*, errW_none, errW_some] <;> rfl), by repeat (first | (with_reducible first | exact HB.out | apply below_alloc | apply pw_below_drewN | apply below_drew1) | exact HB.out)⟩
                · replace c28 := Bool.eq_false_iff.mpr c28
                  subst c28
                  have H1 : ((impl_RunMarks.f l0).bind fun t335 => ((impl_RunMarks.f y322).bind fun t338 => (if (t335.length : Int) = (l0.length : Int) then (laws_FnMarkSet.j2 kj14 a1 t335 t338 ((t338.length : Int) != (wrap64 ((t335.length : Int) + 1)))) else (laws_FnMarkSet.j2 kj14 a1 t335 t338 true)))) = some r := by rw [if_neg (show ¬ (false = true) by decide)] at H; exact H
                  clear H
                  have H := H1
                  clear H1
                  replace H := Option.bind_eq_some_iff.mp H
                  obtain ⟨t335, A310, H⟩ := H
                  replace H : ((impl_RunMarks.f y322).bind fun t338 => (if (t335.length : Int) = (l0.length : Int) then (laws_FnMarkSet.j2 kj14 a1 t335 t338 ((t338.length : Int) != (wrap64 ((t335.length : Int) + 1)))) else (laws_FnMarkSet.j2 kj14 a1 t335 t338 true))) = some r := H
                  have A31 := Aside0.mk A310
                  clear A310
                  replace H := Option.bind_eq_some_iff.mp H
                  obtain ⟨t338, A320, H⟩ := H
                  replace H : (if (t335.length : Int) = (l0.length : Int) then (laws_FnMarkSet.j2 kj14 a1 t335 t338 ((t338.length : Int) != (wrap64 ((t335.length : Int) + 1)))) else (laws_FnMarkSet.j2 kj14 a1 t335 t338 true)) = some r := H
                  have A32 := Aside0.mk A320
                  clear A320
                  have HC33 := Aside0.mk H
                  clear H
                  go_upto_region 11 with (first | ((with_reducible refine gate_callee (f := 14) rfl ?_); refine goesL_ (some 60) rfl rfl Try.func14 (by kernel_rfl) rfl #[.slice A0 l0.length c0] rfl (by (try simp only [List.map_toArray, List.map_cons, List.map_nil]); first | done | rfl | (simp only [List.length_drop, List.length_take]; rfl)) ?_; (with_reducible refine (impl_RunMarks.calls _ _ l0 t335 _ ?side1 ?side2 A31.out).mono ?_); (case side1 => repeat (first | exact (Kd.C_below HR0.out HB.out) | (with_reducible refine Kd.C_alloc ?_ _) | (with_reducible refine Kd.C_drewN ?_ _) | (with_reducible refine Kd.C_drew ?_))); (case side2 => exact HC0.out); rintro e w34 ⟨v336, rfl, ho0, hb⟩; refine ⟨_, rfl, ?_⟩; have n0_ := Aside0.mk (Kd.N_elder' (by (with_reducible repeat (first | apply Kd.N_alloc | apply Kd.N_drewN | apply Kd.N_drew)); exact HO_5.out) (by first | exact Kd.N_base ho0 | exact Kd.N_base (Kd.S_N ho0)) hb); have n1_ := Aside0.mk (Kd.N_lower (Kd.N_mono (ok' := fun k_ => some k_ ≠ (.slice Ao22 y322.length co22 : Value).ownBlock) (Kd.S_N (Kd.S_bound ho0)) (fun k_ hk_ => (Kd.fresh' (Kd.N_lt (by (with_reducible repeat (first | apply Kd.N_alloc | apply Kd.N_drewN | apply Kd.N_drew)); exact HO_5.out)) k_ hk_.2.1))) (below_size (by repeat (first | (with_reducible first | exact HB.out | apply below_alloc | apply pw_below_drewN | apply below_drew1) | exact HB.out)))); have n2_ := Aside0.mk (below_step (by repeat (first | (with_reducible first | exact HB.out | apply below_alloc | apply pw_below_drewN | apply below_drew1) | exact HB.out)) hb); clear HO_5; clear HB; have HO_5 := n0_; have HO337 := n1_; have HB := n2_; clear n0_ n1_ n2_; (try clear hb); (try clear hb2); (try clear hk); (try clear hi); (try clear ho0)) | ((with_reducible refine gate_callee (f := 14) rfl ?_); refine goesL_ (some 62) rfl rfl Try.func14 (by kernel_rfl) rfl #[.slice Ao22 y322.length co22] rfl (by (try simp only [List.map_toArray, List.map_cons, List.map_nil]); first | done | rfl | (simp only [List.length_drop, List.length_take]; rfl)) ?_; (with_reducible refine (impl_RunMarks.calls _ _ y322 t338 _ ?side1 ?side2 A32.out).mono ?_); (case side1 => repeat (first | exact (Kd.N_reads' HO_5.out).2.2 | (with_reducible refine Kd.C_alloc ?_ _) | (with_reducible refine Kd.C_drewN ?_ _) | (with_reducible refine Kd.C_drew ?_))); (case side2 => exact (Kd.N_reads' HO_5.out).2.1); rintro e w35 ⟨v339, rfl, ho0, hb⟩; refine ⟨_, rfl, ?_⟩; have n0_ := Aside0.mk (Kd.N_elder' (by (with_reducible repeat (first | apply Kd.N_alloc | apply Kd.N_drewN | apply Kd.N_drew)); exact HO_5.out) (by first | exact Kd.N_base ho0 | exact Kd.N_base (Kd.S_N ho0)) hb); have n1_ := Aside0.mk (Kd.N_elder' (by (with_reducible repeat (first | apply Kd.N_alloc | apply Kd.N_drewN | apply Kd.N_drew)); exact HO337.out) (by first | exact Kd.N_base ho0 | exact Kd.N_base (Kd.S_N ho0)) hb); have n2_ := Aside0.mk (Kd.N_lower (Kd.N_mono (ok' := fun k_ => some k_ ≠ (.slice Ao22 y322.length co22 : Value).ownBlock ∧ some k_ ≠ (v336 : Value).ownBlock) (Kd.S_N (Kd.S_bound ho0)) (fun k_ hk_ => ⟨(Kd.fresh' (Kd.N_lt (by (with_reducible repeat (first | apply Kd.N_alloc | apply Kd.N_drewN | apply Kd.N_drew)); exact HO_5.out)) k_ hk_.2.1), (Kd.fresh' (Kd.N_lt (by (with_reducible repeat (first | apply Kd.N_alloc | apply Kd.N_drewN | apply Kd.N_drew)); exact HO337.out)) k_ hk_.2.1)⟩)) (below_size (by repeat (first | (with_reducible first | exact HB.out | apply below_alloc | apply pw_below_drewN | apply below_drew1) | exact HB.out)))); have n3_ := Aside0.mk (below_step (by repeat (first | (with_reducible first | exact HB.out | apply below_alloc | apply pw_below_drewN | apply below_drew1) | exact HB.out)) hb); clear HO_5; clear HO337; clear HB; have HO_5 := n0_; have HO337 := n1_; have HO340 := n2_; have HB := n3_; clear n0_ n1_ n2_ n3_; (try clear hb); (try clear hb2); (try clear hk); (try clear hi); (try clear ho0)))
                  (try simp only [Act.put, List.setIfInBounds_toArray, List.set_cons_zero, List.set_cons_succ])
                  go_cut [75] (fun v75 wc => ∃ (kq : Nat) (x75_32 : Bool), v75 = .bool x75_32 ∧ Aside0 (laws_FnMarkSet.j2 kq a1 t335 t338 x75_32 = some r) ∧ Aside0 (kq ≤ kj14) ∧ Aside0 (Kd.N k34 34 wc w.heap.size (fun k_ => some k_ ≠ (v339 : Value).ownBlock) v336 t335) ∧ Aside0 (Kd.N k34 34 wc w.heap.size (fun k_ => some k_ ≠ (v336 : Value).ownBlock) v339 t338) ∧ Aside0 (Below w.heap.size w wc))
                  case first =>
                    have H := HC33.out
                    clear HC33
                    by_cases c36 : (t335.length : Int) = (l0.length : Int)
                    · rw [if_pos c36] at H
                      have c36b0 : ((t335.length : Int) == (l0.length : Int)) = true := beq_iff_eq.mpr c36
                      have c36b1 : ((t335.length : Int) != (l0.length : Int)) = false := bne_eq_false_iff_eq.mpr c36
                      have c36b2 : (t335.length == l0.length) = true := by first | simpa using c36 | (simp at c36 ⊢; omega)
                      clear c36
                      (first | rw [c36b0] | (simp only [i64_w, i32_w]; rw [c36b0]) | skip)
                      have H' := Aside0.mk H
                      clear H
                      obtain ⟨Ao37, co37, eo37⟩ := Kd.N_slice HO337.out
                      subst eo37
                      obtain ⟨Ao38, co38, eo38⟩ := Kd.N_slice HO340.out
                      subst eo38
                      go_wp2
                      go_meet
                      case rel => exact ⟨_, (((t338.length : Int) != (wrap64 ((t335.length : Int) + 1)))), (by first | rfl | (simp; done) | (simp [*]; done)), H', ⟨by have := HJ4.out; have := HJ14.out; first | omega | exact Nat.le_refl _⟩, ⟨by (with_reducible repeat (first | apply Kd.N_alloc | apply Kd.N_drewN | apply Kd.N_drew)); exact Kd.N_mono HO337.out (fun _ hk => hk.2)⟩, ⟨by (with_reducible repeat (first | apply Kd.N_alloc | apply Kd.N_drewN | apply Kd.N_drew)); exact Kd.N_mono HO340.out (fun _ hk => hk.2)⟩, ⟨by repeat (first | (with_reducible first | exact HB.out | apply below_alloc | apply pw_below_drewN | apply below_drew1) | exact HB.out)⟩⟩
                    · rw [if_neg c36] at H
                      have c36b0 : ((t335.length : Int) == (l0.length : Int)) = false := beq_eq_false_iff_ne.mpr c36
                      have c36b1 : ((t335.length : Int) != (l0.length : Int)) = true := bne_iff_ne.mpr c36
                      have c36b2 : (t335.length == l0.length) = false := by first | simpa using c36 | (simp at c36 ⊢; omega)
                      (first | rw [c36b0] | (simp only [i64_w, i32_w]; rw [c36b0]) | skip)
                      have H' := Aside0.mk H
                      clear H
                      obtain ⟨Ao39, co39, eo39⟩ := Kd.N_slice HO337.out
                      subst eo39
                      go_wp2
                      go_meet
                      case rel => exact ⟨_, (true), (by first | rfl | (simp; done) | (simp [*]; done)), H', ⟨by have := HJ4.out; have := HJ14.out; first | omega | exact Nat.le_refl _⟩, ⟨by (with_reducible repeat (first | apply Kd.N_alloc | apply Kd.N_drewN | apply Kd.N_drew)); exact Kd.N_mono HO337.out (fun _ hk => hk.2)⟩, ⟨by (with_reducible repeat (first | apply Kd.N_alloc | apply Kd.N_drewN | apply Kd.N_drew)); exact Kd.N_mono HO340.out (fun _ hk => hk.2)⟩, ⟨by repeat (first | (with_reducible first | exact HB.out | apply below_alloc | apply pw_below_drewN | apply below_drew1) | exact HB.out)⟩⟩
                  case rest =>
                    clear HC33
                    try clear c1
                    try clear c2
                    try clear p2
                    try clear c3
                    try clear p3
                    try clear q3
                    try clear hx3
                    try clear qi3
                    try clear c4
                    try clear p6
                    try clear c7
                    try clear c7b0
                    try clear c8
                    try clear c11
                    try clear c12
                    try clear c13
                    try clear c14
                    try clear c19
                    try clear c24
                    try clear c25
                    try clear c26
                    try clear c26b0
                    try clear c26b1
                    try clear c27
                    try clear c27b0
                    try clear c27b1
                    try clear c28
                    try clear c33
                    try clear p33
                    try clear q33
                    try clear hx33
                    try clear qi33
                    try clear c36
                    try clear c36b0
                    try clear c36b1
                    try clear c36b2
                    try clear hx333_0
                    try clear hx333_1
                    try clear hx333_2
                    try clear p2
                    try clear p3
                    try clear p333
                    try clear q3
                    try clear q333
                    obtain ⟨kq, x75_32, rfl, HA, HJ32, HO_10, HO_11, HB⟩ := hcut
                    cases kq with
                    | zero => exact absurd HA.out (by simp [laws_FnMarkSet.j2])
                    | succ kj32 =>
                      have H := HA.out
                      clear HA
                      simp only [laws_FnMarkSet.j2] at H
                      by_cases c40 : x75_32 = true
                      · subst c40
                        have H1 : (some false) = some r := by rw [if_pos rfl] at H; exact H
                        clear H
                        have H := H1
                        clear H1
                        obtain rfl := Option.some.inj H
                        go_wp2
                        go_ret
                        exact ⟨by first | rfl | (simp [errW_none, errW_some] <;> rfl) | (simp [*, errW_none, errW_some] <;> rfl), by repeat (first | (with_reducible first | exact HB.out | apply below_alloc | apply pw_below_drewN | apply below_drew1) | exact HB.out)⟩
                      · replace c40 := Bool.eq_false_iff.mpr c40
                        subst c40
                        have H1 : (laws_FnMarkSet.l0 kj32 a1 t335 t338 (t335.length : Int) 0) = some r := by rw [if_neg (show ¬ (false = true) by decide)] at H; exact H
                        clear H
                        have H := H1
                        clear H1
                        have H' := Aside0.mk H
                        clear H
                        obtain ⟨Ao41, co41, eo41⟩ := Kd.N_slice HO_10.out
                        subst eo41
                        go_wp2
                        go_loopg [78] kj32 (fun kq v78 w' => ∃ (x78_4 : Int), v78 = .int .i64 x78_4 ∧ Aside0 (laws_FnMarkSet.l0 kq a1 t335 t338 (t335.length : Int) x78_4 = some r) ∧ Aside0 (kq ≤ kj32) ∧ Aside0 (Kd.N k34 34 w' w.heap.size (fun k_ => some k_ ≠ (v339 : Value).ownBlock) (.slice Ao41 t335.length co41) t335) ∧ Aside0 (Kd.N k34 34 w' w.heap.size (fun k_ => some k_ ≠ ((.slice Ao41 t335.length co41) : Value).ownBlock) v339 t338) ∧ Aside0 (Below w.heap.size w w'))
                        case atStart => exact ⟨(0), (by first | rfl | (simp; done) | (simp [*]; done)), H', ⟨Nat.le_refl _⟩, ⟨by (with_reducible repeat (first | apply Kd.N_alloc | apply Kd.N_drewN | apply Kd.N_drew)); exact HO_10.out⟩, ⟨by (with_reducible repeat (first | apply Kd.N_alloc | apply Kd.N_drewN | apply Kd.N_drew)); exact HO_11.out⟩, ⟨by repeat (first | (with_reducible first | exact HB.out | apply below_alloc | apply pw_below_drewN | apply below_drew1) | exact HB.out)⟩⟩
                        case round =>
                          clear H'
                          try clear c1
                          try clear c2
                          try clear p2
                          try clear c3
                          try clear p3
                          try clear q3
                          try clear hx3
                          try clear qi3
                          try clear c4
                          try clear p6
                          try clear c7
                          try clear c7b0
                          try clear c8
                          try clear c11
                          try clear c12
                          try clear c13
                          try clear c14
                          try clear c19
                          try clear c24
                          try clear c25
                          try clear c26
                          try clear c26b0
                          try clear c26b1
                          try clear c27
                          try clear c27b0
                          try clear c27b1
                          try clear c28
                          try clear c33
                          try clear p33
                          try clear q33
                          try clear hx33
                          try clear qi33
                          try clear c36
                          try clear c36b0
                          try clear c36b1
                          try clear c36b2
                          try clear c40
                          try clear hx333_0
                          try clear hx333_1
                          try clear hx333_2
                          try clear p2
                          try clear p3
                          try clear p33
                          try clear p333
                          try clear p6
                          try clear q3
                          try clear q33
                          try clear q333
                          obtain ⟨x78_4, rfl, HA, HK4, HO_10, HO_11, HB⟩ := hrel
                          cases gk with
                          | zero => exact absurd HA.out (by simp [laws_FnMarkSet.l0])
                          | succ k4 =>
                            have H := HA.out
                            clear HA
                            simp only [laws_FnMarkSet.l0] at H
                            by_cases c42 : x78_4 < (t335.length : Int)
                            · rw [if_pos c42] at H
                              have c42b0 : decide (x78_4 < (t335.length : Int)) = true := decide_eq_true c42
                              clear c42
                              obtain ⟨ji43, hji43⟩ : ∃ j_ : Int, (wrap64 (x78_4 + 1)) = j_ := ⟨_, rfl⟩
                              replace H : (if 0 ≤ (ji43) then (if (ji43) < (t338.length : Int) then (if 0 ≤ x78_4 then (if x78_4 < (t335.length : Int) then (if ((rd_T34 t338 (ji43)).f0) = (wrap64 (((rd_T34 t335 x78_4).f0) + a1)) then (if ((rd_T34 t338 (ji43)).f2) = ((rd_T34 t335 x78_4).f2) then ((laws_sameBools.f k4 ((rd_T34 t338 (ji43)).f4) ((rd_T34 t335 x78_4).f4)).bind fun t347 => (if t347 = true then (laws_FnMarkSet.l0 k4 a1 t335 t338 (t335.length : Int) ji43) else (some false))) else (some false)) else (some false)) else (none)) else (none)) else (none)) else (none)) = some r := by first | (rw [hji43] at H; exact H) | (simp only [hji43] at H ⊢; exact H)
                              have hji43w : (IntKind.i64.wrap (x78_4 + 1)) = ji43 := (i64_w _).trans hji43
                              by_cases c44 : 0 ≤ (ji43)
                              · rw [if_pos c44] at H
                                have c44b0 : decide (0 ≤ (ji43)) = true := decide_eq_true c44
                                clear c44
                                by_cases c45 : (ji43) < (t338.length : Int)
                                · rw [if_pos c45] at H
                                  have c45b0 : decide ((ji43) < (t338.length : Int)) = true := decide_eq_true c45
                                  clear c45
                                  by_cases c46 : 0 ≤ x78_4
                                  · rw [if_pos c46] at H
                                    have c46b0 : decide (0 ≤ x78_4) = true := decide_eq_true c46
                                    clear c46
                                    by_cases c47 : x78_4 < (t335.length : Int)
                                    · rw [if_pos c47] at H
                                      have c47b0 : decide (x78_4 < (t335.length : Int)) = true := decide_eq_true c47
                                      clear c47
                                      by_cases c48 : ((rd_T34 t338 (ji43)).f0) = (wrap64 (((rd_T34 t335 x78_4).f0) + a1))
                                      · rw [if_pos c48] at H
                                        have c48b0 : (((rd_T34 t338 (ji43)).f0) == (wrap64 (((rd_T34 t335 x78_4).f0) + a1))) = true := beq_iff_eq.mpr c48
                                        have c48b1 : (((rd_T34 t338 (ji43)).f0) != (wrap64 (((rd_T34 t335 x78_4).f0) + a1))) = false := bne_eq_false_iff_eq.mpr c48
                                        clear c48
                                        by_cases c49 : ((rd_T34 t338 (ji43)).f2) = ((rd_T34 t335 x78_4).f2)
                                        · rw [if_pos c49] at H
                                          have c49b0 : (((rd_T34 t338 (ji43)).f2) == ((rd_T34 t335 x78_4).f2)) = true := beq_iff_eq.mpr c49
                                          have c49b1 : (((rd_T34 t338 (ji43)).f2) != ((rd_T34 t335 x78_4).f2)) = false := bne_eq_false_iff_eq.mpr c49
                                          clear c49
                                          replace H := Option.bind_eq_some_iff.mp H
                                          obtain ⟨t347, A500, H⟩ := H
                                          replace H : (if t347 = true then (laws_FnMarkSet.l0 k4 a1 t335 t338 (t335.length : Int) ji43) else (some false)) = some r := H
                                          have A50 := Aside0.mk A500
                                          clear A500
                                          by_cases c51 : t347 = true
                                          · subst c51
                                            have H1 : (laws_FnMarkSet.l0 k4 a1 t335 t338 (t335.length : Int) ji43) = some r := by rw [if_pos rfl] at H; exact H
                                            clear H
                                            have H := H1
                                            clear H1
                                            have H' := Aside0.mk H
                                            clear H
                                            try go_wp2
                                            have n0_ := Aside0.mk (Kd.N_drew HO_10.out)
                                            have n1_ := Aside0.mk (Kd.N_drew HO_11.out)
                                            have n2_ := Aside0.mk (below_drew1 HB.out)
                                            clear HO_10
                                            clear HO_11
                                            clear HB
                                            have HO_10 := n0_
                                            have HO_11 := n1_
                                            have HB := n2_
                                            clear n0_ n1_ n2_
                                            obtain ⟨Ao53, co53, eo53⟩ := Kd.N_slice HO_11.out
                                            (first | subst eo53 | (injection eo53 with f1_ f2_ f3_; have f4_ := f1_.symm; have f5_ := f3_.symm; clear f1_ f2_ f3_; subst f4_; subst f5_))
                                            have p341 : 0 ≤ ((ji43) : Int) := of_decide_eq_true (by first | (with_reducible assumption) | assumption)
                                            have q341 : (ji43) < (t338.length : Int) := of_decide_eq_true (by first | (with_reducible assumption) | assumption)
                                            obtain ⟨ad341, A341_4, c341_4, e341, hx341_0, hx341_1, hx341_2, hx341_3, hx341_4, hl341_4, hi341_4⟩ := at_T34 (Kd.N_reads' HO_11.out).2.2 (ji43) p341 q341
                                            cases e341
                                            obtain ⟨ce341, hce341, hMe341, hcc341⟩ := Kd.N_get HO_11.out z34 (ji43) p341 (by first | exact q341 | exact of_decide_eq_true (by first | (with_reducible assumption) | assumption) | (have e_ := (Kd.N_reads' HO_11.out).1; omega))
                                            obtain ⟨ua341_4, uc341_4, rfl, ul341_4, ge341_4⟩ := k34_openF hMe341
                                            have hv341_4 := hcc341 4 _ rfl
                                            rw [add_field _ _ 4 (by omega)] at hv341_4
                                            replace hv341_4 := Option.some.inj (hv341_4.symm.trans hx341_4)
                                            injection hv341_4 with hva_ hvn_ hvc_
                                            rw [hva_] at ge341_4
                                            rw [hvc_] at ul341_4
                                            have HL341_4 := Aside0.mk (show Kd.V Kd.bool 4 _ w.heap.size _ _ ((rd_T34 t338 (ji43)).f4) from Kd.V_mk ul341_4 ge341_4)
                                            clear hva_ hvn_ hvc_ ge341_4 ul341_4
                                            clear hcc341 hce341
                                            have HR341_4 := Aside0.mk hi341_4
                                            have HC341_4 := Aside0.mk hl341_4
                                            clear hi341_4 hl341_4
                                            replace p341 := eq_true p341
                                            replace q341 := eq_true q341
                                            have p342 : 0 ≤ (x78_4 : Int) := of_decide_eq_true (by first | (with_reducible assumption) | assumption)
                                            have q342 : x78_4 < (t335.length : Int) := of_decide_eq_true (by first | (with_reducible assumption) | assumption)
                                            obtain ⟨ad342, A342_4, c342_4, e342, hx342_0, hx342_1, hx342_2, hx342_3, hx342_4, hl342_4, hi342_4⟩ := at_T34 (Kd.N_reads' HO_10.out).2.2 x78_4 p342 q342
                                            cases e342
                                            obtain ⟨ce342, hce342, hMe342, hcc342⟩ := Kd.N_get HO_10.out z34 x78_4 p342 (by first | exact q342 | exact of_decide_eq_true (by first | (with_reducible assumption) | assumption) | (have e_ := (Kd.N_reads' HO_10.out).1; omega))
                                            obtain ⟨ua342_4, uc342_4, rfl, ul342_4, ge342_4⟩ := k34_openF hMe342
                                            have hv342_4 := hcc342 4 _ rfl
                                            rw [add_field _ _ 4 (by omega)] at hv342_4
                                            replace hv342_4 := Option.some.inj (hv342_4.symm.trans hx342_4)
                                            injection hv342_4 with hva_ hvn_ hvc_
                                            rw [hva_] at ge342_4
                                            rw [hvc_] at ul342_4
                                            have HL342_4 := Aside0.mk (show Kd.V Kd.bool 4 _ w.heap.size _ _ ((rd_T34 t335 x78_4).f4) from Kd.V_mk ul342_4 ge342_4)
                                            clear hva_ hvn_ hvc_ ge342_4 ul342_4
                                            clear hcc342 hce342
                                            have HR342_4 := Aside0.mk hi342_4
                                            have HC342_4 := Aside0.mk hl342_4
                                            clear hi342_4 hl342_4
                                            replace p342 := eq_true p342
                                            replace q342 := eq_true q342
                                            have p343 : 0 ≤ ((ji43) : Int) := of_decide_eq_true (by first | (with_reducible assumption) | assumption)
                                            have q343 : (ji43) < (t338.length : Int) := of_decide_eq_true (by first | (with_reducible assumption) | assumption)
                                            obtain ⟨ad343, A343_4, c343_4, e343, hx343_0, hx343_1, hx343_2, hx343_3, hx343_4, hl343_4, hi343_4⟩ := at_T34 (Kd.N_reads' HO_11.out).2.2 (ji43) p343 q343
                                            obtain rfl : ad341 = ad343 := (by injection e343)
                                            obtain ⟨ce343, hce343, hMe343, hcc343⟩ := Kd.N_get HO_11.out z34 (ji43) p343 (by first | exact q343 | exact of_decide_eq_true (by first | (with_reducible assumption) | assumption) | (have e_ := (Kd.N_reads' HO_11.out).1; omega))
                                            obtain ⟨ua343_4, uc343_4, rfl, ul343_4, ge343_4⟩ := k34_openF hMe343
                                            have hv343_4 := hcc343 4 _ rfl
                                            rw [add_field _ _ 4 (by omega)] at hv343_4
                                            replace hv343_4 := Option.some.inj (hv343_4.symm.trans hx343_4)
                                            injection hv343_4 with hva_ hvn_ hvc_
                                            rw [hva_] at ge343_4
                                            rw [hvc_] at ul343_4
                                            have HL343_4 := Aside0.mk (show Kd.V Kd.bool 4 _ w.heap.size _ _ ((rd_T34 t338 (ji43)).f4) from Kd.V_mk ul343_4 ge343_4)
                                            clear hva_ hvn_ hvc_ ge343_4 ul343_4
                                            clear hcc343 hce343
                                            have HR343_4 := Aside0.mk hi343_4
                                            have HC343_4 := Aside0.mk hl343_4
                                            clear hi343_4 hl343_4
                                            replace p343 := eq_true p343
                                            replace q343 := eq_true q343
                                            have ea_ := Option.some.inj (hx341_4.symm.trans hx343_4)
                                            injection ea_ with ea_ en_ ec_
                                            subst ea_
                                            subst ec_
                                            clear en_
                                            have p344 : 0 ≤ (x78_4 : Int) := of_decide_eq_true (by first | (with_reducible assumption) | assumption)
                                            have q344 : x78_4 < (t335.length : Int) := of_decide_eq_true (by first | (with_reducible assumption) | assumption)
                                            obtain ⟨ad344, A344_4, c344_4, e344, hx344_0, hx344_1, hx344_2, hx344_3, hx344_4, hl344_4, hi344_4⟩ := at_T34 (Kd.N_reads' HO_10.out).2.2 x78_4 p344 q344
                                            obtain rfl : ad342 = ad344 := (by injection e344)
                                            obtain ⟨ce344, hce344, hMe344, hcc344⟩ := Kd.N_get HO_10.out z34 x78_4 p344 (by first | exact q344 | exact of_decide_eq_true (by first | (with_reducible assumption) | assumption) | (have e_ := (Kd.N_reads' HO_10.out).1; omega))
                                            obtain ⟨ua344_4, uc344_4, rfl, ul344_4, ge344_4⟩ := k34_openF hMe344
                                            have hv344_4 := hcc344 4 _ rfl
                                            rw [add_field _ _ 4 (by omega)] at hv344_4
                                            replace hv344_4 := Option.some.inj (hv344_4.symm.trans hx344_4)
                                            injection hv344_4 with hva_ hvn_ hvc_
                                            rw [hva_] at ge344_4
                                            rw [hvc_] at ul344_4
                                            have HL344_4 := Aside0.mk (show Kd.V Kd.bool 4 _ w.heap.size _ _ ((rd_T34 t335 x78_4).f4) from Kd.V_mk ul344_4 ge344_4)
                                            clear hva_ hvn_ hvc_ ge344_4 ul344_4
                                            clear hcc344 hce344
                                            have HR344_4 := Aside0.mk hi344_4
                                            have HC344_4 := Aside0.mk hl344_4
                                            clear hi344_4 hl344_4
                                            replace p344 := eq_true p344
                                            replace q344 := eq_true q344
                                            have ea_ := Option.some.inj (hx342_4.symm.trans hx344_4)
                                            injection ea_ with ea_ en_ ec_
                                            subst ea_
                                            subst ec_
                                            clear en_
                                            have p345 : 0 ≤ ((ji43) : Int) := of_decide_eq_true (by first | (with_reducible assumption) | assumption)
                                            have q345 : (ji43) < (t338.length : Int) := of_decide_eq_true (by first | (with_reducible assumption) | assumption)
                                            obtain ⟨ad345, A345_4, c345_4, e345, hx345_0, hx345_1, hx345_2, hx345_3, hx345_4, hl345_4, hi345_4⟩ := at_T34 (Kd.N_reads' HO_11.out).2.2 (ji43) p345 q345
                                            obtain rfl : ad341 = ad345 := (by injection e345)
                                            obtain ⟨ce345, hce345, hMe345, hcc345⟩ := Kd.N_get HO_11.out z34 (ji43) p345 (by first | exact q345 | exact of_decide_eq_true (by first | (with_reducible assumption) | assumption) | (have e_ := (Kd.N_reads' HO_11.out).1; omega))
                                            obtain ⟨ua345_4, uc345_4, rfl, ul345_4, ge345_4⟩ := k34_openF hMe345
                                            have hv345_4 := hcc345 4 _ rfl
                                            rw [add_field _ _ 4 (by omega)] at hv345_4
                                            replace hv345_4 := Option.some.inj (hv345_4.symm.trans hx345_4)
                                            injection hv345_4 with hva_ hvn_ hvc_
                                            rw [hva_] at ge345_4
                                            rw [hvc_] at ul345_4
                                            have HL345_4 := Aside0.mk (show Kd.V Kd.bool 4 _ w.heap.size _ _ ((rd_T34 t338 (ji43)).f4) from Kd.V_mk ul345_4 ge345_4)
                                            clear hva_ hvn_ hvc_ ge345_4 ul345_4
                                            clear hcc345 hce345
                                            have HR345_4 := Aside0.mk hi345_4
                                            have HC345_4 := Aside0.mk hl345_4
                                            clear hi345_4 hl345_4
                                            replace p345 := eq_true p345
                                            replace q345 := eq_true q345
                                            have ea_ := Option.some.inj (hx341_4.symm.trans hx345_4)
                                            injection ea_ with ea_ en_ ec_
                                            subst ea_
                                            subst ec_
                                            clear en_
                                            have p346 : 0 ≤ (x78_4 : Int) := of_decide_eq_true (by first | (with_reducible assumption) | assumption)
                                            have q346 : x78_4 < (t335.length : Int) := of_decide_eq_true (by first | (with_reducible assumption) | assumption)
                                            obtain ⟨ad346, A346_4, c346_4, e346, hx346_0, hx346_1, hx346_2, hx346_3, hx346_4, hl346_4, hi346_4⟩ := at_T34 (Kd.N_reads' HO_10.out).2.2 x78_4 p346 q346
                                            obtain rfl : ad342 = ad346 := (by injection e346)
                                            obtain ⟨ce346, hce346, hMe346, hcc346⟩ := Kd.N_get HO_10.out z34 x78_4 p346 (by first | exact q346 | exact of_decide_eq_true (by first | (with_reducible assumption) | assumption) | (have e_ := (Kd.N_reads' HO_10.out).1; omega))
                                            obtain ⟨ua346_4, uc346_4, rfl, ul346_4, ge346_4⟩ := k34_openF hMe346
                                            have hv346_4 := hcc346 4 _ rfl
                                            rw [add_field _ _ 4 (by omega)] at hv346_4
                                            replace hv346_4 := Option.some.inj (hv346_4.symm.trans hx346_4)
                                            injection hv346_4 with hva_ hvn_ hvc_
                                            rw [hva_] at ge346_4
                                            rw [hvc_] at ul346_4
                                            have HL346_4 := Aside0.mk (show Kd.V Kd.bool 4 _ w.heap.size _ _ ((rd_T34 t335 x78_4).f4) from Kd.V_mk ul346_4 ge346_4)
                                            clear hva_ hvn_ hvc_ ge346_4 ul346_4
                                            clear hcc346 hce346
                                            have HR346_4 := Aside0.mk hi346_4
                                            have HC346_4 := Aside0.mk hl346_4
                                            clear hi346_4 hl346_4
                                            replace p346 := eq_true p346
                                            replace q346 := eq_true q346
                                            have ea_ := Option.some.inj (hx342_4.symm.trans hx346_4)
                                            injection ea_ with ea_ en_ ec_
                                            subst ea_
                                            subst ec_
                                            clear en_
                                            refine start_ (n := 43) (S := fun w' => w'.cell? (ad341.add (((ji43)).toNat * 5)) = some (.int .i64 ((rd_T34 t338 (ji43)).f0)) ∧ w'.cell? ⟨(ad341.add (((ji43)).toNat * 5)).block, (ad341.add (((ji43)).toNat * 5)).off + 1, none⟩ = some (.int .i64 ((rd_T34 t338 (ji43)).f1)) ∧ w'.cell? ⟨(ad341.add (((ji43)).toNat * 5)).block, (ad341.add (((ji43)).toNat * 5)).off + 2, none⟩ = some (.int .i64 ((rd_T34 t338 (ji43)).f2)) ∧ w'.cell? ⟨(ad341.add (((ji43)).toNat * 5)).block, (ad341.add (((ji43)).toNat * 5)).off + 3, none⟩ = some (.int .i64 ((rd_T34 t338 (ji43)).f3)) ∧ w'.cell? ⟨(ad341.add (((ji43)).toNat * 5)).block, (ad341.add (((ji43)).toNat * 5)).off + 4, none⟩ = some (.slice A341_4 ((rd_T34 t338 (ji43)).f4).length c341_4) ∧ w'.cell? (ad342.add ((x78_4).toNat * 5)) = some (.int .i64 ((rd_T34 t335 x78_4).f0)) ∧ w'.cell? ⟨(ad342.add ((x78_4).toNat * 5)).block, (ad342.add ((x78_4).toNat * 5)).off + 1, none⟩ = some (.int .i64 ((rd_T34 t335 x78_4).f1)) ∧ w'.cell? ⟨(ad342.add ((x78_4).toNat * 5)).block, (ad342.add ((x78_4).toNat * 5)).off + 2, none⟩ = some (.int .i64 ((rd_T34 t335 x78_4).f2)) ∧ w'.cell? ⟨(ad342.add ((x78_4).toNat * 5)).block, (ad342.add ((x78_4).toNat * 5)).off + 3, none⟩ = some (.int .i64 ((rd_T34 t335 x78_4).f3)) ∧ w'.cell? ⟨(ad342.add ((x78_4).toNat * 5)).block, (ad342.add ((x78_4).toNat * 5)).off + 4, none⟩ = some (.slice A342_4 ((rd_T34 t335 x78_4).f4).length c342_4) ∧ w'.cell? (ad341.add (((ji43)).toNat * 5)) = some (.int .i64 ((rd_T34 t338 (ji43)).f0)) ∧ w'.cell? ⟨(ad341.add (((ji43)).toNat * 5)).block, (ad341.add (((ji43)).toNat * 5)).off + 1, none⟩ = some (.int .i64 ((rd_T34 t338 (ji43)).f1)) ∧ w'.cell? ⟨(ad341.add (((ji43)).toNat * 5)).block, (ad341.add (((ji43)).toNat * 5)).off + 2, none⟩ = some (.int .i64 ((rd_T34 t338 (ji43)).f2)) ∧ w'.cell? ⟨(ad341.add (((ji43)).toNat * 5)).block, (ad341.add (((ji43)).toNat * 5)).off + 3, none⟩ = some (.int .i64 ((rd_T34 t338 (ji43)).f3)) ∧ w'.cell? ⟨(ad341.add (((ji43)).toNat * 5)).block, (ad341.add (((ji43)).toNat * 5)).off + 4, none⟩ = some (.slice A341_4 ((rd_T34 t338 (ji43)).f4).length c341_4) ∧ w'.cell? (ad342.add ((x78_4).toNat * 5)) = some (.int .i64 ((rd_T34 t335 x78_4).f0)) ∧ w'.cell? ⟨(ad342.add ((x78_4).toNat * 5)).block, (ad342.add ((x78_4).toNat * 5)).off + 1, none⟩ = some (.int .i64 ((rd_T34 t335 x78_4).f1)) ∧ w'.cell? ⟨(ad342.add ((x78_4).toNat * 5)).block, (ad342.add ((x78_4).toNat * 5)).off + 2, none⟩ = some (.int .i64 ((rd_T34 t335 x78_4).f2)) ∧ w'.cell? ⟨(ad342.add ((x78_4).toNat * 5)).block, (ad342.add ((x78_4).toNat * 5)).off + 3, none⟩ = some (.int .i64 ((rd_T34 t335 x78_4).f3)) ∧ w'.cell? ⟨(ad342.add ((x78_4).toNat * 5)).block, (ad342.add ((x78_4).toNat * 5)).off + 4, none⟩ = some (.slice A342_4 ((rd_T34 t335 x78_4).f4).length c342_4) ∧ w'.cell? (ad341.add (((ji43)).toNat * 5)) = some (.int .i64 ((rd_T34 t338 (ji43)).f0)) ∧ w'.cell? ⟨(ad341.add (((ji43)).toNat * 5)).block, (ad341.add (((ji43)).toNat * 5)).off + 1, none⟩ = some (.int .i64 ((rd_T34 t338 (ji43)).f1)) ∧ w'.cell? ⟨(ad341.add (((ji43)).toNat * 5)).block, (ad341.add (((ji43)).toNat * 5)).off + 2, none⟩ = some (.int .i64 ((rd_T34 t338 (ji43)).f2)) ∧ w'.cell? ⟨(ad341.add (((ji43)).toNat * 5)).block, (ad341.add (((ji43)).toNat * 5)).off + 3, none⟩ = some (.int .i64 ((rd_T34 t338 (ji43)).f3)) ∧ w'.cell? ⟨(ad341.add (((ji43)).toNat * 5)).block, (ad341.add (((ji43)).toNat * 5)).off + 4, none⟩ = some (.slice A341_4 ((rd_T34 t338 (ji43)).f4).length c341_4) ∧ w'.cell? (ad342.add ((x78_4).toNat * 5)) = some (.int .i64 ((rd_T34 t335 x78_4).f0)) ∧ w'.cell? ⟨(ad342.add ((x78_4).toNat * 5)).block, (ad342.add ((x78_4).toNat * 5)).off + 1, none⟩ = some (.int .i64 ((rd_T34 t335 x78_4).f1)) ∧ w'.cell? ⟨(ad342.add ((x78_4).toNat * 5)).block, (ad342.add ((x78_4).toNat * 5)).off + 2, none⟩ = some (.int .i64 ((rd_T34 t335 x78_4).f2)) ∧ w'.cell? ⟨(ad342.add ((x78_4).toNat * 5)).block, (ad342.add ((x78_4).toNat * 5)).off + 3, none⟩ = some (.int .i64 ((rd_T34 t335 x78_4).f3)) ∧ w'.cell? ⟨(ad342.add ((x78_4).toNat * 5)).block, (ad342.add ((x78_4).toNat * 5)).off + 4, none⟩ = some (.slice A342_4 ((rd_T34 t335 x78_4).f4).length c342_4)) (ds := []) #[false, false, false, false, false, false, false, false, false, false, false, false, false, false, false, false, false, false, false, false, false, false, false, false, false, false, false, false, false, false, false, false, false, false, false, false, false, false, false, false, false, false, false] (by kernel_rfl) rfl rfl ⟨hx341_0, hx341_1, hx341_2, hx341_3, hx341_4, hx342_0, hx342_1, hx342_2, hx342_3, hx342_4, hx343_0, hx343_1, hx343_2, hx343_3, hx343_4, hx344_0, hx344_1, hx344_2, hx344_3, hx344_4, hx345_0, hx345_1, hx345_2, hx345_3, hx345_4, hx346_0, hx346_1, hx346_2, hx346_3, hx346_4⟩ (fun hHeld => ?_); refine with_tabW laws_FnMarkSet.tab16 laws_FnMarkSet.bits16 (fun HT_ HW_ => ?_)
                                            generalize wr.drew = w52 at HO_10 HO_11 HB HL341_4 HL342_4 HL343_4 HL344_4 HL345_4 HL346_4 HR341_4 HR342_4 HR343_4 HR344_4 HR345_4 HR346_4 hx341_0 hx341_1 hx341_2 hx341_3 hx341_4 hx342_0 hx342_1 hx342_2 hx342_3 hx342_4 hx343_0 hx343_1 hx343_2 hx343_3 hx343_4 hx344_0 hx344_1 hx344_2 hx344_3 hx344_4 hx345_0 hx345_1 hx345_2 hx345_3 hx345_4 hx346_0 hx346_1 hx346_2 hx346_3 hx346_4 hHeld ⊢
                                            refine pure_ (i := 0) (N := some 81) (v := ?_) (a' := ?_) #[true, false, false, false, false, false, false, false, false, false, false, false, false, false, false, false, false, false, false, false, false, false, false, false, false, false, false, false, false, false, false, false, false, false, false, false, false, false, false, false, false, false, false] rfl rfl (any_of HT_.out (by kernel_rfl)) (fun _ _ _ h => h) (Or.inl ⟨by rfl, ?_⟩) ?_ ?_
                                            rotate_left
                                            · intro w'
                                              go_simp
                                              with_reducible rfl
                                            rotate_left
                                            · simp only [Act.put, List.setIfInBounds_toArray, List.set_cons_zero, List.set_cons_succ, i64_w, i32_w]
                                              rfl
                                            refine pure_ (i := 1) (N := some 82) (v := ?_) (a' := ?_) #[true, true, false, false, false, false, false, false, false, false, false, false, false, false, false, false, false, false, false, false, false, false, false, false, false, false, false, false, false, false, false, false, false, false, false, false, false, false, false, false, false, false, false] rfl rfl (any_of HT_.out (by kernel_rfl)) (fun _ _ _ h => h) (Or.inl ⟨by rfl, ?_⟩) ?_ ?_
                                            rotate_left
                                            · intro w'
                                              go_simp
                                              with_reducible rfl
                                            rotate_left
                                            · simp only [Act.put, List.setIfInBounds_toArray, List.set_cons_zero, List.set_cons_succ, i64_w, i32_w]
                                              rfl
                                            refine pure_ (i := 2) (N := some 83) (v := ?_) (a' := ?_) #[true, true, true, false, false, false, false, false, false, false, false, false, false, false, false, false, false, false, false, false, false, false, false, false, false, false, false, false, false, false, false, false, false, false, false, false, false, false, false, false, false, false, false] rfl rfl (any_of HT_.out (by kernel_rfl)) (fun _ _ _ h => h) (Or.inl ⟨by rfl, ?_⟩) ?_ ?_
                                            rotate_left
                                            · intro w'
                                              go_simp
                                              with_reducible rfl
                                            rotate_left
                                            · simp only [Act.put, List.setIfInBounds_toArray, List.set_cons_zero, List.set_cons_succ, i64_w, i32_w]
                                              rfl
                                            refine pure_ (i := 3) (N := some 84) (v := ?_) (a' := ?_) #[true, true, true, true, false, false, false, false, false, false, false, false, false, false, false, false, false, false, false, false, false, false, false, false, false, false, false, false, false, false, false, false, false, false, false, false, false, false, false, false, false, false, false] rfl rfl (any_of HT_.out (by kernel_rfl)) (fun _ _ _ h => h) (Or.inl ⟨by rfl, ?_⟩) ?_ ?_
                                            rotate_left
                                            · intro w'
                                              go_simp
                                              with_reducible rfl
                                            rotate_left
                                            · simp only [Act.put, List.setIfInBounds_toArray, List.set_cons_zero, List.set_cons_succ, i64_w, i32_w]
                                              rfl
                                            refine pure_ (i := 4) (N := some 85) (v := ?_) (a' := ?_) #[true, true, true, true, true, false, false, false, false, false, false, false, false, false, false, false, false, false, false, false, false, false, false, false, false, false, false, false, false, false, false, false, false, false, false, false, false, false, false, false, false, false, false] rfl rfl (any_of HT_.out (by kernel_rfl)) (fun _ _ _ h => h) (Or.inl ⟨by rfl, ?_⟩) ?_ ?_
                                            rotate_left
                                            · intro w'
                                              go_simp
                                              with_reducible rfl
                                            rotate_left
                                            · simp only [Act.put, List.setIfInBounds_toArray, List.set_cons_zero, List.set_cons_succ, i64_w, i32_w]
                                              rfl
                                            refine pure_ (i := 6) (N := some 87) (v := ?_) (a' := ?_) #[true, true, true, true, true, false, true, false, false, false, false, false, false, false, false, false, false, false, false, false, false, false, false, false, false, false, false, false, false, false, false, false, false, false, false, false, false, false, false, false, false, false, false] rfl rfl (any_of HT_.out (by kernel_rfl)) (fun _ _ _ h => h) (Or.inl ⟨by rfl, ?_⟩) ?_ ?_
                                            rotate_left
                                            · intro w'
                                              go_simp
                                              with_reducible rfl
                                            rotate_left
                                            · simp only [Act.put, List.setIfInBounds_toArray, List.set_cons_zero, List.set_cons_succ, i64_w, i32_w]
                                              rfl
                                            refine pure_ (i := 7) (N := some 88) (v := ?_) (a' := ?_) #[true, true, true, true, true, false, true, true, false, false, false, false, false, false, false, false, false, false, false, false, false, false, false, false, false, false, false, false, false, false, false, false, false, false, false, false, false, false, false, false, false, false, false] rfl rfl (any_of HT_.out (by kernel_rfl)) (fun _ _ _ h => h) (Or.inl ⟨by rfl, ?_⟩) ?_ ?_
                                            rotate_left
                                            · intro w'
                                              go_simp
                                              with_reducible rfl
                                            rotate_left
                                            · simp only [Act.put, List.setIfInBounds_toArray, List.set_cons_zero, List.set_cons_succ, i64_w, i32_w]
                                              rfl
                                            refine pure_ (i := 8) (N := some 89) (v := ?_) (a' := ?_) #[true, true, true, true, true, false, true, true, true, false, false, false, false, false, false, false, false, false, false, false, false, false, false, false, false, false, false, false, false, false, false, false, false, false, false, false, false, false, false, false, false, false, false] rfl rfl (any_of HT_.out (by kernel_rfl)) (fun _ _ _ h => h) (Or.inl ⟨by rfl, ?_⟩) ?_ ?_
                                            rotate_left
                                            · intro w'
                                              go_simp
                                              with_reducible rfl
                                            rotate_left
                                            · simp only [Act.put, List.setIfInBounds_toArray, List.set_cons_zero, List.set_cons_succ, i64_w, i32_w]
                                              rfl
                                            refine pure_ (i := 9) (N := some 90) (v := ?_) (a' := ?_) #[true, true, true, true, true, false, true, true, true, true, false, false, false, false, false, false, false, false, false, false, false, false, false, false, false, false, false, false, false, false, false, false, false, false, false, false, false, false, false, false, false, false, false] rfl rfl (any_of HT_.out (by kernel_rfl)) (fun _ _ _ h => h) (Or.inl ⟨by rfl, ?_⟩) ?_ ?_
                                            rotate_left
                                            · intro w'
                                              go_simp
                                              with_reducible rfl
                                            rotate_left
                                            · simp only [Act.put, List.setIfInBounds_toArray, List.set_cons_zero, List.set_cons_succ, i64_w, i32_w]
                                              rfl
                                            refine pure_ (i := 11) (N := some 92) (v := ?_) (a' := ?_) #[true, true, true, true, true, false, true, true, true, true, false, true, false, false, false, false, false, false, false, false, false, false, false, false, false, false, false, false, false, false, false, false, false, false, false, false, false, false, false, false, false, false, false] rfl rfl (any_of HT_.out (by kernel_rfl)) (fun _ _ _ h => h) (Or.inl ⟨by rfl, ?_⟩) ?_ ?_
                                            rotate_left
                                            · intro w'
                                              go_simp
                                              with_reducible rfl
                                            rotate_left
                                            · simp only [Act.put, List.setIfInBounds_toArray, List.set_cons_zero, List.set_cons_succ, i64_w, i32_w]
                                              rfl
                                            refine take_ (i := 5) (N := some 86) (v := ?_) (a' := ?_) #[true, true, true, true, true, true, true, true, true, true, false, true, false, false, false, false, false, false, false, false, false, false, false, false, false, false, false, false, false, false, false, false, false, false, false, false, false, false, false, false, false, false, false] rfl rfl (take_ofW HT_.out HW_.out (by kernel_rfl)) (fun _ _ _ h => h) (Or.inl ⟨by rfl, ?_⟩) hHeld ?_ ?_
                                            rotate_left
                                            · rintro w' ⟨s0, s1, s2, s3, s4, s5, s6, s7, s8, s9, s10, s11, s12, s13, s14, s15, s16, s17, s18, s19, s20, s21, s22, s23, s24, s25, s26, s27, s28, s29⟩
                                              go_simp
                                              with_reducible rfl
                                            rotate_left
                                            · simp only [Act.put, List.setIfInBounds_toArray, List.set_cons_zero, List.set_cons_succ, i64_w, i32_w]
                                              rfl
                                            refine take_ (i := 10) (N := some 91) (v := ?_) (a' := ?_) #[true, true, true, true, true, true, true, true, true, true, true, true, false, false, false, false, false, false, false, false, false, false, false, false, false, false, false, false, false, false, false, false, false, false, false, false, false, false, false, false, false, false, false] rfl rfl (take_ofW HT_.out HW_.out (by kernel_rfl)) (fun _ _ _ h => h) (Or.inl ⟨by rfl, ?_⟩) hHeld ?_ ?_
                                            rotate_left
                                            · rintro w' ⟨s0, s1, s2, s3, s4, s5, s6, s7, s8, s9, s10, s11, s12, s13, s14, s15, s16, s17, s18, s19, s20, s21, s22, s23, s24, s25, s26, s27, s28, s29⟩
                                              go_simp
                                              with_reducible rfl
                                            rotate_left
                                            · simp only [Act.put, List.setIfInBounds_toArray, List.set_cons_zero, List.set_cons_succ, i64_w, i32_w]
                                              rfl
                                            refine pure_ (i := 12) (N := some 93) (v := ?_) (a' := ?_) #[true, true, true, true, true, true, true, true, true, true, true, true, true, false, false, false, false, false, false, false, false, false, false, false, false, false, false, false, false, false, false, false, false, false, false, false, false, false, false, false, false, false, false] rfl rfl (any_of HT_.out (by kernel_rfl)) (fun _ _ _ h => h) (Or.inl ⟨by rfl, ?_⟩) ?_ ?_
                                            rotate_left
                                            · intro w'
                                              go_simp
                                              with_reducible rfl
                                            rotate_left
                                            · simp only [Act.put, List.setIfInBounds_toArray, List.set_cons_zero, List.set_cons_succ, i64_w, i32_w]
                                              rfl
                                            refine pure_ (i := 13) (N := some 94) (v := ?_) (a' := ?_) #[true, true, true, true, true, true, true, true, true, true, true, true, true, true, false, false, false, false, false, false, false, false, false, false, false, false, false, false, false, false, false, false, false, false, false, false, false, false, false, false, false, false, false] rfl rfl (any_of HT_.out (by kernel_rfl)) (fun _ _ _ h => h) (Or.inl ⟨by rfl, ?_⟩) ?_ ?_
                                            rotate_left
                                            · intro w'
                                              go_simp
                                              with_reducible rfl
                                            rotate_left
                                            · simp only [Act.put, List.setIfInBounds_toArray, List.set_cons_zero, List.set_cons_succ, i64_w, i32_w]
                                              rfl
                                            refine pure_ (i := 14) (N := some 95) (v := ?_) (a' := ?_) #[true, true, true, true, true, true, true, true, true, true, true, true, true, true, true, false, false, false, false, false, false, false, false, false, false, false, false, false, false, false, false, false, false, false, false, false, false, false, false, false, false, false, false] rfl rfl (any_of HT_.out (by kernel_rfl)) (fun _ _ _ h => h) (Or.inl ⟨by rfl, ?_⟩) ?_ ?_
                                            rotate_left
                                            · intro w'
                                              go_simp
                                              with_reducible rfl
                                            rotate_left
                                            · simp only [Act.put, List.setIfInBounds_toArray, List.set_cons_zero, List.set_cons_succ, i64_w, i32_w]
                                              rfl
                                            refine pure_ (i := 15) (N := some 96) (v := ?_) (a' := ?_) #[true, true, true, true, true, true, true, true, true, true, true, true, true, true, true, true, false, false, false, false, false, false, false, false, false, false, false, false, false, false, false, false, false, false, false, false, false, false, false, false, false, false, false] rfl rfl (any_of HT_.out (by kernel_rfl)) (fun _ _ _ h => h) (Or.inl ⟨by rfl, ?_⟩) ?_ ?_
                                            rotate_left
                                            · intro w'
                                              go_simp
                                              with_reducible rfl
                                            rotate_left
                                            · simp only [Act.put, List.setIfInBounds_toArray, List.set_cons_zero, List.set_cons_succ, i64_w, i32_w]
                                              rfl
                                            refine pure_ (i := 16) (N := some 97) (v := ?_) (a' := ?_) #[true, true, true, true, true, true, true, true, true, true, true, true, true, true, true, true, true, false, false, false, false, false, false, false, false, false, false, false, false, false, false, false, false, false, false, false, false, false, false, false, false, false, false] rfl rfl (any_of HT_.out (by kernel_rfl)) (fun _ _ _ h => h) (Or.inl ⟨by rfl, ?_⟩) ?_ ?_
                                            rotate_left
                                            · intro w'
                                              go_simp
                                              with_reducible rfl
                                            rotate_left
                                            · simp only [Act.put, List.setIfInBounds_toArray, List.set_cons_zero, List.set_cons_succ, i64_w, i32_w]
                                              rfl
                                            refine pure_ (i := 17) (N := some 98) (v := ?_) (a' := ?_) #[true, true, true, true, true, true, true, true, true, true, true, true, true, true, true, true, true, true, false, false, false, false, false, false, false, false, false, false, false, false, false, false, false, false, false, false, false, false, false, false, false, false, false] rfl rfl (any_of HT_.out (by kernel_rfl)) (fun _ _ _ h => h) (Or.inl ⟨by rfl, ?_⟩) ?_ ?_
                                            rotate_left
                                            · intro w'
                                              go_simp
                                              with_reducible rfl
                                            rotate_left
                                            · simp only [Act.put, List.setIfInBounds_toArray, List.set_cons_zero, List.set_cons_succ, i64_w, i32_w]
                                              rfl
                                            refine pure_ (i := 18) (N := some 99) (v := ?_) (a' := ?_) #[true, true, true, true, true, true, true, true, true, true, true, true, true, true, true, true, true, true, true, false, false, false, false, false, false, false, false, false, false, false, false, false, false, false, false, false, false, false, false, false, false, false, false] rfl rfl (any_of HT_.out (by kernel_rfl)) (fun _ _ _ h => h) (Or.inl ⟨by rfl, ?_⟩) ?_ ?_
                                            rotate_left
                                            · intro w'
                                              go_simp
                                              with_reducible rfl
                                            rotate_left
                                            · simp only [Act.put, List.setIfInBounds_toArray, List.set_cons_zero, List.set_cons_succ, i64_w, i32_w]
                                              rfl
                                            refine pure_ (i := 19) (N := some 100) (v := ?_) (a' := ?_) #[true, true, true, true, true, true, true, true, true, true, true, true, true, true, true, true, true, true, true, true, false, false, false, false, false, false, false, false, false, false, false, false, false, false, false, false, false, false, false, false, false, false, false] rfl rfl (any_of HT_.out (by kernel_rfl)) (fun _ _ _ h => h) (Or.inl ⟨by rfl, ?_⟩) ?_ ?_
                                            rotate_left
                                            · intro w'
                                              go_simp
                                              with_reducible rfl
                                            rotate_left
                                            · simp only [Act.put, List.setIfInBounds_toArray, List.set_cons_zero, List.set_cons_succ, i64_w, i32_w]
                                              rfl
                                            refine pure_ (i := 21) (N := some 102) (v := ?_) (a' := ?_) #[true, true, true, true, true, true, true, true, true, true, true, true, true, true, true, true, true, true, true, true, false, true, false, false, false, false, false, false, false, false, false, false, false, false, false, false, false, false, false, false, false, false, false] rfl rfl (any_of HT_.out (by kernel_rfl)) (fun _ _ _ h => h) (Or.inl ⟨by rfl, ?_⟩) ?_ ?_
                                            rotate_left
                                            · intro w'
                                              go_simp
                                              with_reducible rfl
                                            rotate_left
                                            · simp only [Act.put, List.setIfInBounds_toArray, List.set_cons_zero, List.set_cons_succ, i64_w, i32_w]
                                              rfl
                                            refine pure_ (i := 22) (N := some 103) (v := ?_) (a' := ?_) #[true, true, true, true, true, true, true, true, true, true, true, true, true, true, true, true, true, true, true, true, false, true, true, false, false, false, false, false, false, false, false, false, false, false, false, false, false, false, false, false, false, false, false] rfl rfl (any_of HT_.out (by kernel_rfl)) (fun _ _ _ h => h) (Or.inl ⟨by rfl, ?_⟩) ?_ ?_
                                            rotate_left
                                            · intro w'
                                              go_simp
                                              with_reducible rfl
                                            rotate_left
                                            · simp only [Act.put, List.setIfInBounds_toArray, List.set_cons_zero, List.set_cons_succ, i64_w, i32_w]
                                              rfl
                                            refine pure_ (i := 23) (N := some 104) (v := ?_) (a' := ?_) #[true, true, true, true, true, true, true, true, true, true, true, true, true, true, true, true, true, true, true, true, false, true, true, true, false, false, false, false, false, false, false, false, false, false, false, false, false, false, false, false, false, false, false] rfl rfl (any_of HT_.out (by kernel_rfl)) (fun _ _ _ h => h) (Or.inl ⟨by rfl, ?_⟩) ?_ ?_
                                            rotate_left
                                            · intro w'
                                              go_simp
                                              with_reducible rfl
                                            rotate_left
                                            · simp only [Act.put, List.setIfInBounds_toArray, List.set_cons_zero, List.set_cons_succ, i64_w, i32_w]
                                              rfl
                                            refine pure_ (i := 24) (N := some 105) (v := ?_) (a' := ?_) #[true, true, true, true, true, true, true, true, true, true, true, true, true, true, true, true, true, true, true, true, false, true, true, true, true, false, false, false, false, false, false, false, false, false, false, false, false, false, false, false, false, false, false] rfl rfl (any_of HT_.out (by kernel_rfl)) (fun _ _ _ h => h) (Or.inl ⟨by rfl, ?_⟩) ?_ ?_
                                            rotate_left
                                            · intro w'
                                              go_simp
                                              with_reducible rfl
                                            rotate_left
                                            · simp only [Act.put, List.setIfInBounds_toArray, List.set_cons_zero, List.set_cons_succ, i64_w, i32_w]
                                              rfl
                                            refine take_ (i := 20) (N := some 101) (v := ?_) (a' := ?_) #[true, true, true, true, true, true, true, true, true, true, true, true, true, true, true, true, true, true, true, true, true, true, true, true, true, false, false, false, false, false, false, false, false, false, false, false, false, false, false, false, false, false, false] rfl rfl (take_ofW HT_.out HW_.out (by kernel_rfl)) (fun _ _ _ h => h) (Or.inl ⟨by rfl, ?_⟩) hHeld ?_ ?_
                                            rotate_left
                                            · rintro w' ⟨s0, s1, s2, s3, s4, s5, s6, s7, s8, s9, s10, s11, s12, s13, s14, s15, s16, s17, s18, s19, s20, s21, s22, s23, s24, s25, s26, s27, s28, s29⟩
                                              go_simp
                                              with_reducible rfl
                                            rotate_left
                                            · simp only [Act.put, List.setIfInBounds_toArray, List.set_cons_zero, List.set_cons_succ, i64_w, i32_w]
                                              rfl
                                            refine take_ (i := 25) (N := some 106) (v := ?_) (a' := ?_) #[true, true, true, true, true, true, true, true, true, true, true, true, true, true, true, true, true, true, true, true, true, true, true, true, true, true, false, false, false, false, false, false, false, false, false, false, false, false, false, false, false, false, false] rfl rfl (take_ofW HT_.out HW_.out (by kernel_rfl)) (fun _ _ _ h => h) (Or.inl ⟨by rfl, ?_⟩) hHeld ?_ ?_
                                            rotate_left
                                            · rintro w' ⟨s0, s1, s2, s3, s4, s5, s6, s7, s8, s9, s10, s11, s12, s13, s14, s15, s16, s17, s18, s19, s20, s21, s22, s23, s24, s25, s26, s27, s28, s29⟩
                                              go_simp
                                              with_reducible rfl
                                            rotate_left
                                            · simp only [Act.put, List.setIfInBounds_toArray, List.set_cons_zero, List.set_cons_succ, i64_w, i32_w]
                                              rfl
                                            refine pure_ (i := 26) (N := some 107) (v := ?_) (a' := ?_) #[true, true, true, true, true, true, true, true, true, true, true, true, true, true, true, true, true, true, true, true, true, true, true, true, true, true, true, false, false, false, false, false, false, false, false, false, false, false, false, false, false, false, false] rfl rfl (any_of HT_.out (by kernel_rfl)) (fun _ _ _ h => h) (Or.inl ⟨by rfl, ?_⟩) ?_ ?_
                                            rotate_left
                                            · intro w'
                                              go_simp
                                              with_reducible rfl
                                            rotate_left
                                            · simp only [Act.put, List.setIfInBounds_toArray, List.set_cons_zero, List.set_cons_succ, i64_w, i32_w]
                                              rfl
                                            refine pure_ (i := 27) (N := some 108) (v := ?_) (a' := ?_) #[true, true, true, true, true, true, true, true, true, true, true, true, true, true, true, true, true, true, true, true, true, true, true, true, true, true, true, true, false, false, false, false, false, false, false, false, false, false, false, false, false, false, false] rfl rfl (any_of HT_.out (by kernel_rfl)) (fun _ _ _ h => h) (Or.inl ⟨by rfl, ?_⟩) ?_ ?_
                                            rotate_left
                                            · intro w'
                                              go_simp
                                              with_reducible rfl
                                            rotate_left
                                            · simp only [Act.put, List.setIfInBounds_toArray, List.set_cons_zero, List.set_cons_succ, i64_w, i32_w]
                                              rfl
                                            refine pure_ (i := 28) (N := some 109) (v := ?_) (a' := ?_) #[true, true, true, true, true, true, true, true, true, true, true, true, true, true, true, true, true, true, true, true, true, true, true, true, true, true, true, true, true, false, false, false, false, false, false, false, false, false, false, false, false, false, false] rfl rfl (any_of HT_.out (by kernel_rfl)) (fun _ _ _ h => h) (Or.inl ⟨by rfl, ?_⟩) ?_ ?_
                                            rotate_left
                                            · intro w'
                                              go_simp
                                              with_reducible rfl
                                            rotate_left
                                            · simp only [Act.put, List.setIfInBounds_toArray, List.set_cons_zero, List.set_cons_succ, i64_w, i32_w]
                                              rfl
                                            refine pure_ (i := 29) (N := some 110) (v := ?_) (a' := ?_) #[true, true, true, true, true, true, true, true, true, true, true, true, true, true, true, true, true, true, true, true, true, true, true, true, true, true, true, true, true, true, false, false, false, false, false, false, false, false, false, false, false, false, false] rfl rfl (any_of HT_.out (by kernel_rfl)) (fun _ _ _ h => h) (Or.inl ⟨by rfl, ?_⟩) ?_ ?_
                                            rotate_left
                                            · intro w'
                                              go_simp
                                              with_reducible rfl
                                            rotate_left
                                            · simp only [Act.put, List.setIfInBounds_toArray, List.set_cons_zero, List.set_cons_succ, i64_w, i32_w]
                                              rfl
                                            refine pure_ (i := 30) (N := some 111) (v := ?_) (a' := ?_) #[true, true, true, true, true, true, true, true, true, true, true, true, true, true, true, true, true, true, true, true, true, true, true, true, true, true, true, true, true, true, true, false, false, false, false, false, false, false, false, false, false, false, false] rfl rfl (any_of HT_.out (by kernel_rfl)) (fun _ _ _ h => h) (Or.inl ⟨by rfl, ?_⟩) ?_ ?_
                                            rotate_left
                                            · intro w'
                                              go_simp
                                              with_reducible rfl
                                            rotate_left
                                            · simp only [Act.put, List.setIfInBounds_toArray, List.set_cons_zero, List.set_cons_succ, i64_w, i32_w]
                                              rfl
                                            refine pure_ (i := 31) (N := some 112) (v := ?_) (a' := ?_) #[true, true, true, true, true, true, true, true, true, true, true, true, true, true, true, true, true, true, true, true, true, true, true, true, true, true, true, true, true, true, true, true, false, false, false, false, false, false, false, false, false, false, false] rfl rfl (any_of HT_.out (by kernel_rfl)) (fun _ _ _ h => h) (Or.inl ⟨by rfl, ?_⟩) ?_ ?_
                                            rotate_left
                                            · intro w'
                                              go_simp
                                              with_reducible rfl
                                            rotate_left
                                            · simp only [Act.put, List.setIfInBounds_toArray, List.set_cons_zero, List.set_cons_succ, i64_w, i32_w]
                                              rfl
                                            refine pure_ (i := 32) (N := some 113) (v := ?_) (a' := ?_) #[true, true, true, true, true, true, true, true, true, true, true, true, true, true, true, true, true, true, true, true, true, true, true, true, true, true, true, true, true, true, true, true, true, false, false, false, false, false, false, false, false, false, false] rfl rfl (any_of HT_.out (by kernel_rfl)) (fun _ _ _ h => h) (Or.inl ⟨by rfl, ?_⟩) ?_ ?_
                                            rotate_left
                                            · intro w'
                                              go_simp
                                              with_reducible rfl
                                            rotate_left
                                            · simp only [Act.put, List.setIfInBounds_toArray, List.set_cons_zero, List.set_cons_succ, i64_w, i32_w]
                                              rfl
                                            refine pure_ (i := 33) (N := some 114) (v := ?_) (a' := ?_) #[true, true, true, true, true, true, true, true, true, true, true, true, true, true, true, true, true, true, true, true, true, true, true, true, true, true, true, true, true, true, true, true, true, true, false, false, false, false, false, false, false, false, false] rfl rfl (any_of HT_.out (by kernel_rfl)) (fun _ _ _ h => h) (Or.inl ⟨by rfl, ?_⟩) ?_ ?_
                                            rotate_left
                                            · intro w'
                                              go_simp
                                              with_reducible rfl
                                            rotate_left
                                            · simp only [Act.put, List.setIfInBounds_toArray, List.set_cons_zero, List.set_cons_succ, i64_w, i32_w]
                                              rfl
                                            refine pure_ (i := 35) (N := some 116) (v := ?_) (a' := ?_) #[true, true, true, true, true, true, true, true, true, true, true, true, true, true, true, true, true, true, true, true, true, true, true, true, true, true, true, true, true, true, true, true, true, true, false, true, false, false, false, false, false, false, false] rfl rfl (any_of HT_.out (by kernel_rfl)) (fun _ _ _ h => h) (Or.inl ⟨by rfl, ?_⟩) ?_ ?_
                                            rotate_left
                                            · intro w'
                                              go_simp
                                              with_reducible rfl
                                            rotate_left
                                            · simp only [Act.put, List.setIfInBounds_toArray, List.set_cons_zero, List.set_cons_succ, i64_w, i32_w]
                                              rfl
                                            refine pure_ (i := 36) (N := some 117) (v := ?_) (a' := ?_) #[true, true, true, true, true, true, true, true, true, true, true, true, true, true, true, true, true, true, true, true, true, true, true, true, true, true, true, true, true, true, true, true, true, true, false, true, true, false, false, false, false, false, false] rfl rfl (any_of HT_.out (by kernel_rfl)) (fun _ _ _ h => h) (Or.inl ⟨by rfl, ?_⟩) ?_ ?_
                                            rotate_left
                                            · intro w'
                                              go_simp
                                              with_reducible rfl
                                            rotate_left
                                            · simp only [Act.put, List.setIfInBounds_toArray, List.set_cons_zero, List.set_cons_succ, i64_w, i32_w]
                                              rfl
                                            refine pure_ (i := 37) (N := some 118) (v := ?_) (a' := ?_) #[true, true, true, true, true, true, true, true, true, true, true, true, true, true, true, true, true, true, true, true, true, true, true, true, true, true, true, true, true, true, true, true, true, true, false, true, true, true, false, false, false, false, false] rfl rfl (any_of HT_.out (by kernel_rfl)) (fun _ _ _ h => h) (Or.inl ⟨by rfl, ?_⟩) ?_ ?_
                                            rotate_left
                                            · intro w'
                                              go_simp
                                              with_reducible rfl
                                            rotate_left
                                            · simp only [Act.put, List.setIfInBounds_toArray, List.set_cons_zero, List.set_cons_succ, i64_w, i32_w]
                                              rfl
                                            refine pure_ (i := 38) (N := some 119) (v := ?_) (a' := ?_) #[true, true, true, true, true, true, true, true, true, true, true, true, true, true, true, true, true, true, true, true, true, true, true, true, true, true, true, true, true, true, true, true, true, true, false, true, true, true, true, false, false, false, false] rfl rfl (any_of HT_.out (by kernel_rfl)) (fun _ _ _ h => h) (Or.inl ⟨by rfl, ?_⟩) ?_ ?_
                                            rotate_left
                                            · intro w'
                                              go_simp
                                              with_reducible rfl
                                            rotate_left
                                            · simp only [Act.put, List.setIfInBounds_toArray, List.set_cons_zero, List.set_cons_succ, i64_w, i32_w]
                                              rfl
                                            refine take_ (i := 34) (N := some 115) (v := ?_) (a' := ?_) #[true, true, true, true, true, true, true, true, true, true, true, true, true, true, true, true, true, true, true, true, true, true, true, true, true, true, true, true, true, true, true, true, true, true, true, true, true, true, true, false, false, false, false] rfl rfl (take_ofW HT_.out HW_.out (by kernel_rfl)) (fun _ _ _ h => h) (Or.inl ⟨by rfl, ?_⟩) hHeld ?_ ?_
                                            rotate_left
                                            · rintro w' ⟨s0, s1, s2, s3, s4, s5, s6, s7, s8, s9, s10, s11, s12, s13, s14, s15, s16, s17, s18, s19, s20, s21, s22, s23, s24, s25, s26, s27, s28, s29⟩
                                              go_simp
                                              with_reducible rfl
                                            rotate_left
                                            · simp only [Act.put, List.setIfInBounds_toArray, List.set_cons_zero, List.set_cons_succ, i64_w, i32_w]
                                              rfl
                                            refine take_ (i := 39) (N := some 120) (v := ?_) (a' := ?_) #[true, true, true, true, true, true, true, true, true, true, true, true, true, true, true, true, true, true, true, true, true, true, true, true, true, true, true, true, true, true, true, true, true, true, true, true, true, true, true, true, false, false, false] rfl rfl (take_ofW HT_.out HW_.out (by kernel_rfl)) (fun _ _ _ h => h) (Or.inl ⟨by rfl, ?_⟩) hHeld ?_ ?_
                                            rotate_left
                                            · rintro w' ⟨s0, s1, s2, s3, s4, s5, s6, s7, s8, s9, s10, s11, s12, s13, s14, s15, s16, s17, s18, s19, s20, s21, s22, s23, s24, s25, s26, s27, s28, s29⟩
                                              go_simp
                                              with_reducible rfl
                                            rotate_left
                                            · simp only [Act.put, List.setIfInBounds_toArray, List.set_cons_zero, List.set_cons_succ, i64_w, i32_w]
                                              rfl
                                            refine one_ (i := 40) (N := some 121) #[true, true, true, true, true, true, true, true, true, true, true, true, true, true, true, true, true, true, true, true, true, true, true, true, true, true, true, true, true, true, true, true, true, true, true, true, true, true, true, true, true, false, false] rfl rfl (one_of HT_.out (by kernel_rfl)) (by decide) (fun K hK => ?_)
                                            refine goes_ Try.func16 (by kernel_rfl) rfl #[.slice A341_4 ((rd_T34 t338 (ji43)).f4).length c341_4, .slice A342_4 ((rd_T34 t335 x78_4).f4).length c342_4] (by rfl) rfl rfl (by (try simp only [List.map_toArray, List.map_cons, List.map_nil]); first | done | (simp only [hji43]; rfl) | rfl | (simp only [List.length_drop, List.length_take]; rfl)) ?_
                                            with_reducible refine (laws_sameBools.calls k4 _ _ ((rd_T34 t338 (ji43)).f4) _ _ ((rd_T34 t335 x78_4).f4) true _ ?side1 ?side2 ?side3 ?side4 A50.out).mono ?_
                                            (case side1 => repeat (first | exact (by repeat (first | (with_reducible exact HR345_4.out) | (with_reducible refine Kd.C_alloc ?_ _) | (with_reducible refine Kd.C_drewN ?_ _) | (with_reducible refine Kd.C_drew ?_) | exact HR345_4.out)) | (with_reducible refine Kd.C_alloc ?_ _) | (with_reducible refine Kd.C_drewN ?_ _) | (with_reducible refine Kd.C_drew ?_)))
                                            (case side2 => exact HC345_4.out)
                                            (case side3 => repeat (first | exact (by repeat (first | (with_reducible exact HR346_4.out) | (with_reducible refine Kd.C_alloc ?_ _) | (with_reducible refine Kd.C_drewN ?_ _) | (with_reducible refine Kd.C_drew ?_) | exact HR346_4.out)) | (with_reducible refine Kd.C_alloc ?_ _) | (with_reducible refine Kd.C_drewN ?_ _) | (with_reducible refine Kd.C_drew ?_)))
                                            (case side4 => exact HC346_4.out)
                                            rintro e w' ⟨rfl, ⟨nd, rfl⟩⟩
                                            refine ⟨_, rfl, ?_⟩
                                            refine hK.out _ _ ⟨hHeld.1, hHeld.2.1, hHeld.2.2.1, hHeld.2.2.2.1, hHeld.2.2.2.2.1, hHeld.2.2.2.2.2.1, hHeld.2.2.2.2.2.2.1, hHeld.2.2.2.2.2.2.2.1, hHeld.2.2.2.2.2.2.2.2.1, hHeld.2.2.2.2.2.2.2.2.2.1, hHeld.2.2.2.2.2.2.2.2.2.2.1, hHeld.2.2.2.2.2.2.2.2.2.2.2.1, hHeld.2.2.2.2.2.2.2.2.2.2.2.2.1, hHeld.2.2.2.2.2.2.2.2.2.2.2.2.2.1, hHeld.2.2.2.2.2.2.2.2.2.2.2.2.2.2.1, hHeld.2.2.2.2.2.2.2.2.2.2.2.2.2.2.2.1, hHeld.2.2.2.2.2.2.2.2.2.2.2.2.2.2.2.2.1, hHeld.2.2.2.2.2.2.2.2.2.2.2.2.2.2.2.2.2.1, hHeld.2.2.2.2.2.2.2.2.2.2.2.2.2.2.2.2.2.2.1, hHeld.2.2.2.2.2.2.2.2.2.2.2.2.2.2.2.2.2.2.2.1, hHeld.2.2.2.2.2.2.2.2.2.2.2.2.2.2.2.2.2.2.2.2.1, hHeld.2.2.2.2.2.2.2.2.2.2.2.2.2.2.2.2.2.2.2.2.2.1, hHeld.2.2.2.2.2.2.2.2.2.2.2.2.2.2.2.2.2.2.2.2.2.2.1, hHeld.2.2.2.2.2.2.2.2.2.2.2.2.2.2.2.2.2.2.2.2.2.2.2.1, hHeld.2.2.2.2.2.2.2.2.2.2.2.2.2.2.2.2.2.2.2.2.2.2.2.2.1, hHeld.2.2.2.2.2.2.2.2.2.2.2.2.2.2.2.2.2.2.2.2.2.2.2.2.2.1, hHeld.2.2.2.2.2.2.2.2.2.2.2.2.2.2.2.2.2.2.2.2.2.2.2.2.2.2.1, hHeld.2.2.2.2.2.2.2.2.2.2.2.2.2.2.2.2.2.2.2.2.2.2.2.2.2.2.2.1, hHeld.2.2.2.2.2.2.2.2.2.2.2.2.2.2.2.2.2.2.2.2.2.2.2.2.2.2.2.2.1, hHeld.2.2.2.2.2.2.2.2.2.2.2.2.2.2.2.2.2.2.2.2.2.2.2.2.2.2.2.2.2⟩ (fun hHeld => ?_)
                                            clear hK K
                                            refine norm_ (a' := ?_) ?_ ?_
                                            rotate_left
                                            · show Act.put _ (some 121) _ = _
                                              simp only [Act.put, List.setIfInBounds_toArray, List.set_cons_zero, List.set_cons_succ, i64_w, i32_w]
                                              rfl
                                            refine pure_ (i := 41) (N := some 122) (v := ?_) (a' := ?_) #[true, true, true, true, true, true, true, true, true, true, true, true, true, true, true, true, true, true, true, true, true, true, true, true, true, true, true, true, true, true, true, true, true, true, true, true, true, true, true, true, true, true, false] rfl rfl (any_of HT_.out (by kernel_rfl)) (fun _ _ _ h => h) (Or.inl ⟨by rfl, ?_⟩) ?_ ?_
                                            rotate_left
                                            · intro w'
                                              go_simp
                                              with_reducible rfl
                                            rotate_left
                                            · simp only [Act.put, List.setIfInBounds_toArray, List.set_cons_zero, List.set_cons_succ, i64_w, i32_w]
                                              rfl
                                            refine pure_ (i := 42) (N := some 123) (v := ?_) (a' := ?_) #[true, true, true, true, true, true, true, true, true, true, true, true, true, true, true, true, true, true, true, true, true, true, true, true, true, true, true, true, true, true, true, true, true, true, true, true, true, true, true, true, true, true, true] rfl rfl (any_of HT_.out (by kernel_rfl)) (fun _ _ _ h => h) (Or.inl ⟨by rfl, ?_⟩) ?_ ?_
                                            rotate_left
                                            · intro w'
                                              go_simp
                                              with_reducible rfl
                                            rotate_left
                                            · simp only [Act.put, List.setIfInBounds_toArray, List.set_cons_zero, List.set_cons_succ, i64_w, i32_w]
                                              rfl
                                            refine done_ (done_of HT_.out (by kernel_rfl)) ?_
                                            try go_wp2
                                            go_roundg k4
                                            case measure => have := HJ4.out; have := HJ14.out; have := HJ32.out; have := HK4.out; omega
                                            case rel => exact ⟨(ji43), (by first | rfl | (simp; done) | (simp only [← hji43] <;> (first | rfl | simp)) | (simp [*]; done)), H', ⟨by have := HJ4.out; have := HJ14.out; have := HJ32.out; have := HK4.out; omega⟩, ⟨by (with_reducible repeat (first | apply Kd.N_alloc | apply Kd.N_drewN | apply Kd.N_drew)); exact HO_10.out⟩, ⟨by (with_reducible repeat (first | apply Kd.N_alloc | apply Kd.N_drewN | apply Kd.N_drew)); exact HO_11.out⟩, ⟨by repeat (first | (with_reducible first | exact HB.out | apply below_alloc | apply pw_below_drewN | apply below_drew1) | exact HB.out)⟩⟩
                                          · replace c51 := Bool.eq_false_iff.mpr c51
                                            subst c51
                                            have H1 : (some false) = some r := by rw [if_neg (show ¬ (false = true) by decide)] at H; exact H
                                            clear H
                                            have H := H1
                                            clear H1
                                            obtain rfl := Option.some.inj H
                                            try go_wp2
                                            have n0_ := Aside0.mk (Kd.N_drew HO_10.out)
                                            have n1_ := Aside0.mk (Kd.N_drew HO_11.out)
                                            have n2_ := Aside0.mk (below_drew1 HB.out)
                                            clear HO_10
                                            clear HO_11
                                            clear HB
                                            have HO_10 := n0_
                                            have HO_11 := n1_
                                            have HB := n2_
                                            clear n0_ n1_ n2_
                                            obtain ⟨Ao55, co55, eo55⟩ := Kd.N_slice HO_11.out
                                            (first | subst eo55 | (injection eo55 with f1_ f2_ f3_; have f4_ := f1_.symm; have f5_ := f3_.symm; clear f1_ f2_ f3_; subst f4_; subst f5_))
                                            have p341 : 0 ≤ ((ji43) : Int) := of_decide_eq_true (by first | (with_reducible assumption) | assumption)
                                            have q341 : (ji43) < (t338.length : Int) := of_decide_eq_true (by first | (with_reducible assumption) | assumption)
                                            obtain ⟨ad341, A341_4, c341_4, e341, hx341_0, hx341_1, hx341_2, hx341_3, hx341_4, hl341_4, hi341_4⟩ := at_T34 (Kd.N_reads' HO_11.out).2.2 (ji43) p341 q341
                                            cases e341
                                            obtain ⟨ce341, hce341, hMe341, hcc341⟩ := Kd.N_get HO_11.out z34 (ji43) p341 (by first | exact q341 | exact of_decide_eq_true (by first | (with_reducible assumption) | assumption) | (have e_ := (Kd.N_reads' HO_11.out).1; omega))
                                            obtain ⟨ua341_4, uc341_4, rfl, ul341_4, ge341_4⟩ := k34_openF hMe341
                                            have hv341_4 := hcc341 4 _ rfl
                                            rw [add_field _ _ 4 (by omega)] at hv341_4
                                            replace hv341_4 := Option.some.inj (hv341_4.symm.trans hx341_4)
                                            injection hv341_4 with hva_ hvn_ hvc_
                                            rw [hva_] at ge341_4
                                            rw [hvc_] at ul341_4
                                            have HL341_4 := Aside0.mk (show Kd.V Kd.bool 4 _ w.heap.size _ _ ((rd_T34 t338 (ji43)).f4) from Kd.V_mk ul341_4 ge341_4)
                                            clear hva_ hvn_ hvc_ ge341_4 ul341_4
                                            clear hcc341 hce341
                                            have HR341_4 := Aside0.mk hi341_4
                                            have HC341_4 := Aside0.mk hl341_4
                                            clear hi341_4 hl341_4
                                            replace p341 := eq_true p341
                                            replace q341 := eq_true q341
                                            have p342 : 0 ≤ (x78_4 : Int) := of_decide_eq_true (by first | (with_reducible assumption) | assumption)
                                            have q342 : x78_4 < (t335.length : Int) := of_decide_eq_true (by first | (with_reducible assumption) | assumption)
                                            obtain ⟨ad342, A342_4, c342_4, e342, hx342_0, hx342_1, hx342_2, hx342_3, hx342_4, hl342_4, hi342_4⟩ := at_T34 (Kd.N_reads' HO_10.out).2.2 x78_4 p342 q342
                                            cases e342
                                            obtain ⟨ce342, hce342, hMe342, hcc342⟩ := Kd.N_get HO_10.out z34 x78_4 p342 (by first | exact q342 | exact of_decide_eq_true (by first | (with_reducible assumption) | assumption) | (have e_ := (Kd.N_reads' HO_10.out).1; omega))
                                            obtain ⟨ua342_4, uc342_4, rfl, ul342_4, ge342_4⟩ := k34_openF hMe342
                                            have hv342_4 := hcc342 4 _ rfl
                                            rw [add_field _ _ 4 (by omega)] at hv342_4
                                            replace hv342_4 := Option.some.inj (hv342_4.symm.trans hx342_4)
                                            injection hv342_4 with hva_ hvn_ hvc_
                                            rw [hva_] at ge342_4
                                            rw [hvc_] at ul342_4
                                            have HL342_4 := Aside0.mk (show Kd.V Kd.bool 4 _ w.heap.size _ _ ((rd_T34 t335 x78_4).f4) from Kd.V_mk ul342_4 ge342_4)
                                            clear hva_ hvn_ hvc_ ge342_4 ul342_4
                                            clear hcc342 hce342
                                            have HR342_4 := Aside0.mk hi342_4
                                            have HC342_4 := Aside0.mk hl342_4
                                            clear hi342_4 hl342_4
                                            replace p342 := eq_true p342
                                            replace q342 := eq_true q342
                                            have p343 : 0 ≤ ((ji43) : Int) := of_decide_eq_true (by first | (with_reducible assumption) | assumption)
                                            have q343 : (ji43) < (t338.length : Int) := of_decide_eq_true (by first | (with_reducible assumption) | assumption)
                                            obtain ⟨ad343, A343_4, c343_4, e343, hx343_0, hx343_1, hx343_2, hx343_3, hx343_4, hl343_4, hi343_4⟩ := at_T34 (Kd.N_reads' HO_11.out).2.2 (ji43) p343 q343
                                            obtain rfl : ad341 = ad343 := (by injection e343)
                                            obtain ⟨ce343, hce343, hMe343, hcc343⟩ := Kd.N_get HO_11.out z34 (ji43) p343 (by first | exact q343 | exact of_decide_eq_true (by first | (with_reducible assumption) | assumption) | (have e_ := (Kd.N_reads' HO_11.out).1; omega))
                                            obtain ⟨ua343_4, uc343_4, rfl, ul343_4, ge343_4⟩ := k34_openF hMe343
                                            have hv343_4 := hcc343 4 _ rfl
                                            rw [add_field _ _ 4 (by omega)] at hv343_4
                                            replace hv343_4 := Option.some.inj (hv343_4.symm.trans hx343_4)
                                            injection hv343_4 with hva_ hvn_ hvc_
                                            rw [hva_] at ge343_4
                                            rw [hvc_] at ul343_4
                                            have HL343_4 := Aside0.mk (show Kd.V Kd.bool 4 _ w.heap.size _ _ ((rd_T34 t338 (ji43)).f4) from Kd.V_mk ul343_4 ge343_4)
                                            clear hva_ hvn_ hvc_ ge343_4 ul343_4
                                            clear hcc343 hce343
                                            have HR343_4 := Aside0.mk hi343_4
                                            have HC343_4 := Aside0.mk hl343_4
                                            clear hi343_4 hl343_4
                                            replace p343 := eq_true p343
                                            replace q343 := eq_true q343
                                            have ea_ := Option.some.inj (hx341_4.symm.trans hx343_4)
                                            injection ea_ with ea_ en_ ec_
                                            subst ea_
                                            subst ec_
                                            clear en_
                                            have p344 : 0 ≤ (x78_4 : Int) := of_decide_eq_true (by first | (with_reducible assumption) | assumption)
                                            have q344 : x78_4 < (t335.length : Int) := of_decide_eq_true (by first | (with_reducible assumption) | assumption)
                                            obtain ⟨ad344, A344_4, c344_4, e344, hx344_0, hx344_1, hx344_2, hx344_3, hx344_4, hl344_4, hi344_4⟩ := at_T34 (Kd.N_reads' HO_10.out).2.2 x78_4 p344 q344
                                            obtain rfl : ad342 = ad344 := (by injection e344)
                                            obtain ⟨ce344, hce344, hMe344, hcc344⟩ := Kd.N_get HO_10.out z34 x78_4 p344 (by first | exact q344 | exact of_decide_eq_true (by first | (with_reducible assumption) | assumption) | (have e_ := (Kd.N_reads' HO_10.out).1; omega))
                                            obtain ⟨ua344_4, uc344_4, rfl, ul344_4, ge344_4⟩ := k34_openF hMe344
                                            have hv344_4 := hcc344 4 _ rfl
                                            rw [add_field _ _ 4 (by omega)] at hv344_4
                                            replace hv344_4 := Option.some.inj (hv344_4.symm.trans hx344_4)
                                            injection hv344_4 with hva_ hvn_ hvc_
                                            rw [hva_] at ge344_4
                                            rw [hvc_] at ul344_4
                                            have HL344_4 := Aside0.mk (show Kd.V Kd.bool 4 _ w.heap.size _ _ ((rd_T34 t335 x78_4).f4) from Kd.V_mk ul344_4 ge344_4)
                                            clear hva_ hvn_ hvc_ ge344_4 ul344_4
                                            clear hcc344 hce344
                                            have HR344_4 := Aside0.mk hi344_4
                                            have HC344_4 := Aside0.mk hl344_4
                                            clear hi344_4 hl344_4
                                            replace p344 := eq_true p344
                                            replace q344 := eq_true q344
                                            have ea_ := Option.some.inj (hx342_4.symm.trans hx344_4)
                                            injection ea_ with ea_ en_ ec_
                                            subst ea_
                                            subst ec_
                                            clear en_
                                            have p345 : 0 ≤ ((ji43) : Int) := of_decide_eq_true (by first | (with_reducible assumption) | assumption)
                                            have q345 : (ji43) < (t338.length : Int) := of_decide_eq_true (by first | (with_reducible assumption) | assumption)
                                            obtain ⟨ad345, A345_4, c345_4, e345, hx345_0, hx345_1, hx345_2, hx345_3, hx345_4, hl345_4, hi345_4⟩ := at_T34 (Kd.N_reads' HO_11.out).2.2 (ji43) p345 q345
                                            obtain rfl : ad341 = ad345 := (by injection e345)
                                            obtain ⟨ce345, hce345, hMe345, hcc345⟩ := Kd.N_get HO_11.out z34 (ji43) p345 (by first | exact q345 | exact of_decide_eq_true (by first | (with_reducible assumption) | assumption) | (have e_ := (Kd.N_reads' HO_11.out).1; omega))
                                            obtain ⟨ua345_4, uc345_4, rfl, ul345_4, ge345_4⟩ := k34_openF hMe345
                                            have hv345_4 := hcc345 4 _ rfl
                                            rw [add_field _ _ 4 (by omega)] at hv345_4
                                            replace hv345_4 := Option.some.inj (hv345_4.symm.trans hx345_4)
                                            injection hv345_4 with hva_ hvn_ hvc_
                                            rw [hva_] at ge345_4
                                            rw [hvc_] at ul345_4
                                            have HL345_4 := Aside0.mk (show Kd.V Kd.bool 4 _ w.heap.size _ _ ((rd_T34 t338 (ji43)).f4) from Kd.V_mk ul345_4 ge345_4)
                                            clear hva_ hvn_ hvc_ ge345_4 ul345_4
                                            clear hcc345 hce345
                                            have HR345_4 := Aside0.mk hi345_4
                                            have HC345_4 := Aside0.mk hl345_4
                                            clear hi345_4 hl345_4
                                            replace p345 := eq_true p345
                                            replace q345 := eq_true q345
                                            have ea_ := Option.some.inj (hx341_4.symm.trans hx345_4)
                                            injection ea_ with ea_ en_ ec_
                                            subst ea_
                                            subst ec_
                                            clear en_
                                            have p346 : 0 ≤ (x78_4 : Int) := of_decide_eq_true (by first | (with_reducible assumption) | assumption)
                                            have q346 : x78_4 < (t335.length : Int) := of_decide_eq_true (by first | (with_reducible assumption) | assumption)
                                            obtain ⟨ad346, A346_4, c346_4, e346, hx346_0, hx346_1, hx346_2, hx346_3, hx346_4, hl346_4, hi346_4⟩ := at_T34 (Kd.N_reads' HO_10.out).2.2 x78_4 p346 q346
                                            obtain rfl : ad342 = ad346 := (by injection e346)
                                            obtain ⟨ce346, hce346, hMe346, hcc346⟩ := Kd.N_get HO_10.out z34 x78_4 p346 (by first | exact q346 | exact of_decide_eq_true (by first | (with_reducible assumption) | assumption) | (have e_ := (Kd.N_reads' HO_10.out).1; omega))
                                            obtain ⟨ua346_4, uc346_4, rfl, ul346_4, ge346_4⟩ := k34_openF hMe346
                                            have hv346_4 := hcc346 4 _ rfl
                                            rw [add_field _ _ 4 (by omega)] at hv346_4
                                            replace hv346_4 := Option.some.inj (hv346_4.symm.trans hx346_4)
                                            injection hv346_4 with hva_ hvn_ hvc_
                                            rw [hva_] at ge346_4
                                            rw [hvc_] at ul346_4
                                            have HL346_4 := Aside0.mk (show Kd.V Kd.bool 4 _ w.heap.size _ _ ((rd_T34 t335 x78_4).f4) from Kd.V_mk ul346_4 ge346_4)
                                            clear hva_ hvn_ hvc_ ge346_4 ul346_4
                                            clear hcc346 hce346
                                            have HR346_4 := Aside0.mk hi346_4
                                            have HC346_4 := Aside0.mk hl346_4
                                            clear hi346_4 hl346_4
                                            replace p346 := eq_true p346
                                            replace q346 := eq_true q346
                                            have ea_ := Option.some.inj (hx342_4.symm.trans hx346_4)
                                            injection ea_ with ea_ en_ ec_
                                            subst ea_
                                            subst ec_
                                            clear en_
                                            refine start_ (n := 43) (S := fun w' => w'.cell? (ad341.add (((ji43)).toNat * 5)) = some (.int .i64 ((rd_T34 t338 (ji43)).f0)) ∧ w'.cell? ⟨(ad341.add (((ji43)).toNat * 5)).block, (ad341.add (((ji43)).toNat * 5)).off + 1, none⟩ = some (.int .i64 ((rd_T34 t338 (ji43)).f1)) ∧ w'.cell? ⟨(ad341.add (((ji43)).toNat * 5)).block, (ad341.add (((ji43)).toNat * 5)).off + 2, none⟩ = some (.int .i64 ((rd_T34 t338 (ji43)).f2)) ∧ w'.cell? ⟨(ad341.add (((ji43)).toNat * 5)).block, (ad341.add (((ji43)).toNat * 5)).off + 3, none⟩ = some (.int .i64 ((rd_T34 t338 (ji43)).f3)) ∧ w'.cell? ⟨(ad341.add (((ji43)).toNat * 5)).block, (ad341.add (((ji43)).toNat * 5)).off + 4, none⟩ = some (.slice A341_4 ((rd_T34 t338 (ji43)).f4).length c341_4) ∧ w'.cell? (ad342.add ((x78_4).toNat * 5)) = some (.int .i64 ((rd_T34 t335 x78_4).f0)) ∧ w'.cell? ⟨(ad342.add ((x78_4).toNat * 5)).block, (ad342.add ((x78_4).toNat * 5)).off + 1, none⟩ = some (.int .i64 ((rd_T34 t335 x78_4).f1)) ∧ w'.cell? ⟨(ad342.add ((x78_4).toNat * 5)).block, (ad342.add ((x78_4).toNat * 5)).off + 2, none⟩ = some (.int .i64 ((rd_T34 t335 x78_4).f2)) ∧ w'.cell? ⟨(ad342.add ((x78_4).toNat * 5)).block, (ad342.add ((x78_4).toNat * 5)).off + 3, none⟩ = some (.int .i64 ((rd_T34 t335 x78_4).f3)) ∧ w'.cell? ⟨(ad342.add ((x78_4).toNat * 5)).block, (ad342.add ((x78_4).toNat * 5)).off + 4, none⟩ = some (.slice A342_4 ((rd_T34 t335 x78_4).f4).length c342_4) ∧ w'.cell? (ad341.add (((ji43)).toNat * 5)) = some (.int .i64 ((rd_T34 t338 (ji43)).f0)) ∧ w'.cell? ⟨(ad341.add (((ji43)).toNat * 5)).block, (ad341.add (((ji43)).toNat * 5)).off + 1, none⟩ = some (.int .i64 ((rd_T34 t338 (ji43)).f1)) ∧ w'.cell? ⟨(ad341.add (((ji43)).toNat * 5)).block, (ad341.add (((ji43)).toNat * 5)).off + 2, none⟩ = some (.int .i64 ((rd_T34 t338 (ji43)).f2)) ∧ w'.cell? ⟨(ad341.add (((ji43)).toNat * 5)).block, (ad341.add (((ji43)).toNat * 5)).off + 3, none⟩ = some (.int .i64 ((rd_T34 t338 (ji43)).f3)) ∧ w'.cell? ⟨(ad341.add (((ji43)).toNat * 5)).block, (ad341.add (((ji43)).toNat * 5)).off + 4, none⟩ = some (.slice A341_4 ((rd_T34 t338 (ji43)).f4).length c341_4) ∧ w'.cell? (ad342.add ((x78_4).toNat * 5)) = some (.int .i64 ((rd_T34 t335 x78_4).f0)) ∧ w'.cell? ⟨(ad342.add ((x78_4).toNat * 5)).block, (ad342.add ((x78_4).toNat * 5)).off + 1, none⟩ = some (.int .i64 ((rd_T34 t335 x78_4).f1)) ∧ w'.cell? ⟨(ad342.add ((x78_4).toNat * 5)).block, (ad342.add ((x78_4).toNat * 5)).off + 2, none⟩ = some (.int .i64 ((rd_T34 t335 x78_4).f2)) ∧ w'.cell? ⟨(ad342.add ((x78_4).toNat * 5)).block, (ad342.add ((x78_4).toNat * 5)).off + 3, none⟩ = some (.int .i64 ((rd_T34 t335 x78_4).f3)) ∧ w'.cell? ⟨(ad342.add ((x78_4).toNat * 5)).block, (ad342.add ((x78_4).toNat * 5)).off + 4, none⟩ = some (.slice A342_4 ((rd_T34 t335 x78_4).f4).length c342_4) ∧ w'.cell? (ad341.add (((ji43)).toNat * 5)) = some (.int .i64 ((rd_T34 t338 (ji43)).f0)) ∧ w'.cell? ⟨(ad341.add (((ji43)).toNat * 5)).block, (ad341.add (((ji43)).toNat * 5)).off + 1, none⟩ = some (.int .i64 ((rd_T34 t338 (ji43)).f1)) ∧ w'.cell? ⟨(ad341.add (((ji43)).toNat * 5)).block, (ad341.add (((ji43)).toNat * 5)).off + 2, none⟩ = some (.int .i64 ((rd_T34 t338 (ji43)).f2)) ∧ w'.cell? ⟨(ad341.add (((ji43)).toNat * 5)).block, (ad341.add (((ji43)).toNat * 5)).off + 3, none⟩ = some (.int .i64 ((rd_T34 t338 (ji43)).f3)) ∧ w'.cell? ⟨(ad341.add (((ji43)).toNat * 5)).block, (ad341.add (((ji43)).toNat * 5)).off + 4, none⟩ = some (.slice A341_4 ((rd_T34 t338 (ji43)).f4).length c341_4) ∧ w'.cell? (ad342.add ((x78_4).toNat * 5)) = some (.int .i64 ((rd_T34 t335 x78_4).f0)) ∧ w'.cell? ⟨(ad342.add ((x78_4).toNat * 5)).block, (ad342.add ((x78_4).toNat * 5)).off + 1, none⟩ = some (.int .i64 ((rd_T34 t335 x78_4).f1)) ∧ w'.cell? ⟨(ad342.add ((x78_4).toNat * 5)).block, (ad342.add ((x78_4).toNat * 5)).off + 2, none⟩ = some (.int .i64 ((rd_T34 t335 x78_4).f2)) ∧ w'.cell? ⟨(ad342.add ((x78_4).toNat * 5)).block, (ad342.add ((x78_4).toNat * 5)).off + 3, none⟩ = some (.int .i64 ((rd_T34 t335 x78_4).f3)) ∧ w'.cell? ⟨(ad342.add ((x78_4).toNat * 5)).block, (ad342.add ((x78_4).toNat * 5)).off + 4, none⟩ = some (.slice A342_4 ((rd_T34 t335 x78_4).f4).length c342_4)) (ds := []) #[false, false, false, false, false, false, false, false, false, false, false, false, false, false, false, false, false, false, false, false, false, false, false, false, false, false, false, false, false, false, false, false, false, false, false, false, false, false, false, false, false, false, false] (by kernel_rfl) rfl rfl ⟨hx341_0, hx341_1, hx341_2, hx341_3, hx341_4, hx342_0, hx342_1, hx342_2, hx342_3, hx342_4, hx343_0, hx343_1, hx343_2, hx343_3, hx343_4, hx344_0, hx344_1, hx344_2, hx344_3, hx344_4, hx345_0, hx345_1, hx345_2, hx345_3, hx345_4, hx346_0, hx346_1, hx346_2, hx346_3, hx346_4⟩ (fun hHeld => ?_); refine with_tabW laws_FnMarkSet.tab16 laws_FnMarkSet.bits16 (fun HT_ HW_ => ?_)
                                            generalize wr.drew = w54 at HO_10 HO_11 HB HL341_4 HL342_4 HL343_4 HL344_4 HL345_4 HL346_4 HR341_4 HR342_4 HR343_4 HR344_4 HR345_4 HR346_4 hx341_0 hx341_1 hx341_2 hx341_3 hx341_4 hx342_0 hx342_1 hx342_2 hx342_3 hx342_4 hx343_0 hx343_1 hx343_2 hx343_3 hx343_4 hx344_0 hx344_1 hx344_2 hx344_3 hx344_4 hx345_0 hx345_1 hx345_2 hx345_3 hx345_4 hx346_0 hx346_1 hx346_2 hx346_3 hx346_4 hHeld ⊢
                                            refine pure_ (i := 0) (N := some 81) (v := ?_) (a' := ?_) #[true, false, false, false, false, false, false, false, false, false, false, false, false, false, false, false, false, false, false, false, false, false, false, false, false, false, false, false, false, false, false, false, false, false, false, false, false, false, false, false, false, false, false] rfl rfl (any_of HT_.out (by kernel_rfl)) (fun _ _ _ h => h) (Or.inl ⟨by rfl, ?_⟩) ?_ ?_
                                            rotate_left
                                            · intro w'
                                              go_simp
                                              with_reducible rfl
                                            rotate_left
                                            · simp only [Act.put, List.setIfInBounds_toArray, List.set_cons_zero, List.set_cons_succ, i64_w, i32_w]
                                              rfl
                                            refine pure_ (i := 1) (N := some 82) (v := ?_) (a' := ?_) #[true, true, false, false, false, false, false, false, false, false, false, false, false, false, false, false, false, false, false, false, false, false, false, false, false, false, false, false, false, false, false, false, false, false, false, false, false, false, false, false, false, false, false] rfl rfl (any_of HT_.out (by kernel_rfl)) (fun _ _ _ h => h) (Or.inl ⟨by rfl, ?_⟩) ?_ ?_
                                            rotate_left
                                            · intro w'
                                              go_simp
                                              with_reducible rfl
                                            rotate_left
                                            · simp only [Act.put, List.setIfInBounds_toArray, List.set_cons_zero, List.set_cons_succ, i64_w, i32_w]
                                              rfl
                                            refine pure_ (i := 2) (N := some 83) (v := ?_) (a' := ?_) #[true, true, true, false, false, false, false, false, false, false, false, false, false, false, false, false, false, false, false, false, false, false, false, false, false, false, false, false, false, false, false, false, false, false, false, false, false, false, false, false, false, false, false] rfl rfl (any_of HT_.out (by kernel_rfl)) (fun _ _ _ h => h) (Or.inl ⟨by rfl, ?_⟩) ?_ ?_
                                            rotate_left
                                            · intro w'
                                              go_simp
                                              with_reducible rfl
                                            rotate_left
                                            · simp only [Act.put, List.setIfInBounds_toArray, List.set_cons_zero, List.set_cons_succ, i64_w, i32_w]
                                              rfl
                                            refine pure_ (i := 3) (N := some 84) (v := ?_) (a' := ?_) #[true, true, true, true, false, false, false, false, false, false, false, false, false, false, false, false, false, false, false, false, false, false, false, false, false, false, false, false, false, false, false, false, false, false, false, false, false, false, false, false, false, false, false] rfl rfl (any_of HT_.out (by kernel_rfl)) (fun _ _ _ h => h) (Or.inl ⟨by rfl, ?_⟩) ?_ ?_
                                            rotate_left
                                            · intro w'
                                              go_simp
                                              with_reducible rfl
                                            rotate_left
                                            · simp only [Act.put, List.setIfInBounds_toArray, List.set_cons_zero, List.set_cons_succ, i64_w, i32_w]
                                              rfl
                                            refine pure_ (i := 4) (N := some 85) (v := ?_) (a' := ?_) #[true, true, true, true, true, false, false, false, false, false, false, false, false, false, false, false, false, false, false, false, false, false, false, false, false, false, false, false, false, false, false, false, false, false, false, false, false, false, false, false, false, false, false] rfl rfl (any_of HT_.out (by kernel_rfl)) (fun _ _ _ h => h) (Or.inl ⟨by rfl, ?_⟩) ?_ ?_
                                            rotate_left
                                            · intro w'
                                              go_simp
                                              with_reducible rfl
                                            rotate_left
                                            · simp only [Act.put, List.setIfInBounds_toArray, List.set_cons_zero, List.set_cons_succ, i64_w, i32_w]
                                              rfl
                                            refine pure_ (i := 6) (N := some 87) (v := ?_) (a' := ?_) #[true, true, true, true, true, false, true, false, false, false, false, false, false, false, false, false, false, false, false, false, false, false, false, false, false, false, false, false, false, false, false, false, false, false, false, false, false, false, false, false, false, false, false] rfl rfl (any_of HT_.out (by kernel_rfl)) (fun _ _ _ h => h) (Or.inl ⟨by rfl, ?_⟩) ?_ ?_
                                            rotate_left
                                            · intro w'
                                              go_simp
                                              with_reducible rfl
                                            rotate_left
                                            · simp only [Act.put, List.setIfInBounds_toArray, List.set_cons_zero, List.set_cons_succ, i64_w, i32_w]
                                              rfl
                                            refine pure_ (i := 7) (N := some 88) (v := ?_) (a' := ?_) #[true, true, true, true, true, false, true, true, false, false, false, false, false, false, false, false, false, false, false, false, false, false, false, false, false, false, false, false, false, false, false, false, false, false, false, false, false, false, false, false, false, false, false] rfl rfl (any_of HT_.out (by kernel_rfl)) (fun _ _ _ h => h) (Or.inl ⟨by rfl, ?_⟩) ?_ ?_
                                            rotate_left
                                            · intro w'
                                              go_simp
                                              with_reducible rfl
                                            rotate_left
                                            · simp only [Act.put, List.setIfInBounds_toArray, List.set_cons_zero, List.set_cons_succ, i64_w, i32_w]
                                              rfl
                                            refine pure_ (i := 8) (N := some 89) (v := ?_) (a' := ?_) #[true, true, true, true, true, false, true, true, true, false, false, false, false, false, false, false, false, false, false, false, false, false, false, false, false, false, false, false, false, false, false, false, false, false, false, false, false, false, false, false, false, false, false] rfl rfl (any_of HT_.out (by kernel_rfl)) (fun _ _ _ h => h) (Or.inl ⟨by rfl, ?_⟩) ?_ ?_
                                            rotate_left
                                            · intro w'
                                              go_simp
                                              with_reducible rfl
                                            rotate_left
                                            · simp only [Act.put, List.setIfInBounds_toArray, List.set_cons_zero, List.set_cons_succ, i64_w, i32_w]
                                              rfl
                                            refine pure_ (i := 9) (N := some 90) (v := ?_) (a' := ?_) #[true, true, true, true, true, false, true, true, true, true, false, false, false, false, false, false, false, false, false, false, false, false, false, false, false, false, false, false, false, false, false, false, false, false, false, false, false, false, false, false, false, false, false] rfl rfl (any_of HT_.out (by kernel_rfl)) (fun _ _ _ h => h) (Or.inl ⟨by rfl, ?_⟩) ?_ ?_
                                            rotate_left
                                            · intro w'
                                              go_simp
                                              with_reducible rfl
                                            rotate_left
                                            · simp only [Act.put, List.setIfInBounds_toArray, List.set_cons_zero, List.set_cons_succ, i64_w, i32_w]
                                              rfl
                                            refine pure_ (i := 11) (N := some 92) (v := ?_) (a' := ?_) #[true, true, true, true, true, false, true, true, true, true, false, true, false, false, false, false, false, false, false, false, false, false, false, false, false, false, false, false, false, false, false, false, false, false, false, false, false, false, false, false, false, false, false] rfl rfl (any_of HT_.out (by kernel_rfl)) (fun _ _ _ h => h) (Or.inl ⟨by rfl, ?_⟩) ?_ ?_
                                            rotate_left
                                            · intro w'
                                              go_simp
                                              with_reducible rfl
                                            rotate_left
                                            · simp only [Act.put, List.setIfInBounds_toArray, List.set_cons_zero, List.set_cons_succ, i64_w, i32_w]
                                              rfl
                                            refine take_ (i := 5) (N := some 86) (v := ?_) (a' := ?_) #[true, true, true, true, true, true, true, true, true, true, false, true, false, false, false, false, false, false, false, false, false, false, false, false, false, false, false, false, false, false, false, false, false, false, false, false, false, false, false, false, false, false, false] rfl rfl (take_ofW HT_.out HW_.out (by kernel_rfl)) (fun _ _ _ h => h) (Or.inl ⟨by rfl, ?_⟩) hHeld ?_ ?_
                                            rotate_left
                                            · rintro w' ⟨s0, s1, s2, s3, s4, s5, s6, s7, s8, s9, s10, s11, s12, s13, s14, s15, s16, s17, s18, s19, s20, s21, s22, s23, s24, s25, s26, s27, s28, s29⟩
                                              go_simp
                                              with_reducible rfl
                                            rotate_left
                                            · simp only [Act.put, List.setIfInBounds_toArray, List.set_cons_zero, List.set_cons_succ, i64_w, i32_w]
                                              rfl
                                            refine take_ (i := 10) (N := some 91) (v := ?_) (a' := ?_) #[true, true, true, true, true, true, true, true, true, true, true, true, false, false, false, false, false, false, false, false, false, false, false, false, false, false, false, false, false, false, false, false, false, false, false, false, false, false, false, false, false, false, false] rfl rfl (take_ofW HT_.out HW_.out (by kernel_rfl)) (fun _ _ _ h => h) (Or.inl ⟨by rfl, ?_⟩) hHeld ?_ ?_
                                            rotate_left
                                            · rintro w' ⟨s0, s1, s2, s3, s4, s5, s6, s7, s8, s9, s10, s11, s12, s13, s14, s15, s16, s17, s18, s19, s20, s21, s22, s23, s24, s25, s26, s27, s28, s29⟩
                                              go_simp
                                              with_reducible rfl
                                            rotate_left
                                            · simp only [Act.put, List.setIfInBounds_toArray, List.set_cons_zero, List.set_cons_succ, i64_w, i32_w]
                                              rfl
                                            refine pure_ (i := 12) (N := some 93) (v := ?_) (a' := ?_) #[true, true, true, true, true, true, true, true, true, true, true, true, true, false, false, false, false, false, false, false, false, false, false, false, false, false, false, false, false, false, false, false, false, false, false, false, false, false, false, false, false, false, false] rfl rfl (any_of HT_.out (by kernel_rfl)) (fun _ _ _ h => h) (Or.inl ⟨by rfl, ?_⟩) ?_ ?_
                                            rotate_left
                                            · intro w'
                                              go_simp
                                              with_reducible rfl
                                            rotate_left
                                            · simp only [Act.put, List.setIfInBounds_toArray, List.set_cons_zero, List.set_cons_succ, i64_w, i32_w]
                                              rfl
                                            refine pure_ (i := 13) (N := some 94) (v := ?_) (a' := ?_) #[true, true, true, true, true, true, true, true, true, true, true, true, true, true, false, false, false, false, false, false, false, false, false, false, false, false, false, false, false, false, false, false, false, false, false, false, false, false, false, false, false, false, false] rfl rfl (any_of HT_.out (by kernel_rfl)) (fun _ _ _ h => h) (Or.inl ⟨by rfl, ?_⟩) ?_ ?_
                                            rotate_left
                                            · intro w'
                                              go_simp
                                              with_reducible rfl
                                            rotate_left
                                            · simp only [Act.put, List.setIfInBounds_toArray, List.set_cons_zero, List.set_cons_succ, i64_w, i32_w]
                                              rfl
                                            refine pure_ (i := 14) (N := some 95) (v := ?_) (a' := ?_) #[true, true, true, true, true, true, true, true, true, true, true, true, true, true, true, false, false, false, false, false, false, false, false, false, false, false, false, false, false, false, false, false, false, false, false, false, false, false, false, false, false, false, false] rfl rfl (any_of HT_.out (by kernel_rfl)) (fun _ _ _ h => h) (Or.inl ⟨by rfl, ?_⟩) ?_ ?_
                                            rotate_left
                                            · intro w'
                                              go_simp
                                              with_reducible rfl
                                            rotate_left
                                            · simp only [Act.put, List.setIfInBounds_toArray, List.set_cons_zero, List.set_cons_succ, i64_w, i32_w]
                                              rfl
                                            refine pure_ (i := 15) (N := some 96) (v := ?_) (a' := ?_) #[true, true, true, true, true, true, true, true, true, true, true, true, true, true, true, true, false, false, false, false, false, false, false, false, false, false, false, false, false, false, false, false, false, false, false, false, false, false, false, false, false, false, false] rfl rfl (any_of HT_.out (by kernel_rfl)) (fun _ _ _ h => h) (Or.inl ⟨by rfl, ?_⟩) ?_ ?_
                                            rotate_left
                                            · intro w'
                                              go_simp
                                              with_reducible rfl
                                            rotate_left
                                            · simp only [Act.put, List.setIfInBounds_toArray, List.set_cons_zero, List.set_cons_succ, i64_w, i32_w]
                                              rfl
                                            refine pure_ (i := 16) (N := some 97) (v := ?_) (a' := ?_) #[true, true, true, true, true, true, true, true, true, true, true, true, true, true, true, true, true, false, false, false, false, false, false, false, false, false, false, false, false, false, false, false, false, false, false, false, false, false, false, false, false, false, false] rfl rfl (any_of HT_.out (by kernel_rfl)) (fun _ _ _ h => h) (Or.inl ⟨by rfl, ?_⟩) ?_ ?_
                                            rotate_left
                                            · intro w'
                                              go_simp
                                              with_reducible rfl
                                            rotate_left
                                            · simp only [Act.put, List.setIfInBounds_toArray, List.set_cons_zero, List.set_cons_succ, i64_w, i32_w]
                                              rfl
                                            refine pure_ (i := 17) (N := some 98) (v := ?_) (a' := ?_) #[true, true, true, true, true, true, true, true, true, true, true, true, true, true, true, true, true, true, false, false, false, false, false, false, false, false, false, false, false, false, false, false, false, false, false, false, false, false, false, false, false, false, false] rfl rfl (any_of HT_.out (by kernel_rfl)) (fun _ _ _ h => h) (Or.inl ⟨by rfl, ?_⟩) ?_ ?_
                                            rotate_left
                                            · intro w'
                                              go_simp
                                              with_reducible rfl
                                            rotate_left
                                            · simp only [Act.put, List.setIfInBounds_toArray, List.set_cons_zero, List.set_cons_succ, i64_w, i32_w]
                                              rfl
                                            refine pure_ (i := 18) (N := some 99) (v := ?_) (a' := ?_) #[true, true, true, true, true, true, true, true, true, true, true, true, true, true, true, true, true, true, true, false, false, false, false, false, false, false, false, false, false, false, false, false, false, false, false, false, false, false, false, false, false, false, false] rfl rfl (any_of HT_.out (by kernel_rfl)) (fun _ _ _ h => h) (Or.inl ⟨by rfl, ?_⟩) ?_ ?_
                                            rotate_left
                                            · intro w'
                                              go_simp
                                              with_reducible rfl
                                            rotate_left
                                            · simp only [Act.put, List.setIfInBounds_toArray, List.set_cons_zero, List.set_cons_succ, i64_w, i32_w]
                                              rfl
                                            refine pure_ (i := 19) (N := some 100) (v := ?_) (a' := ?_) #[true, true, true, true, true, true, true, true, true, true, true, true, true, true, true, true, true, true, true, true, false, false, false, false, false, false, false, false, false, false, false, false, false, false, false, false, false, false, false, false, false, false, false] rfl rfl (any_of HT_.out (by kernel_rfl)) (fun _ _ _ h => h) (Or.inl ⟨by rfl, ?_⟩) ?_ ?_
                                            rotate_left
                                            · intro w'
                                              go_simp
                                              with_reducible rfl
                                            rotate_left
                                            · simp only [Act.put, List.setIfInBounds_toArray, List.set_cons_zero, List.set_cons_succ, i64_w, i32_w]
                                              rfl
                                            refine pure_ (i := 21) (N := some 102) (v := ?_) (a' := ?_) #[true, true, true, true, true, true, true, true, true, true, true, true, true, true, true, true, true, true, true, true, false, true, false, false, false, false, false, false, false, false, false, false, false, false, false, false, false, false, false, false, false, false, false] rfl rfl (any_of HT_.out (by kernel_rfl)) (fun _ _ _ h => h) (Or.inl ⟨by rfl, ?_⟩) ?_ ?_
                                            rotate_left
                                            · intro w'
                                              go_simp
                                              with_reducible rfl
                                            rotate_left
                                            · simp only [Act.put, List.setIfInBounds_toArray, List.set_cons_zero, List.set_cons_succ, i64_w, i32_w]
                                              rfl
                                            refine pure_ (i := 22) (N := some 103) (v := ?_) (a' := ?_) #[true, true, true, true, true, true, true, true, true, true, true, true, true, true, true, true, true, true, true, true, false, true, true, false, false, false, false, false, false, false, false, false, false, false, false, false, false, false, false, false, false, false, false] rfl rfl (any_of HT_.out (by kernel_rfl)) (fun _ _ _ h => h) (Or.inl ⟨by rfl, ?_⟩) ?_ ?_
                                            rotate_left
                                            · intro w'
                                              go_simp
                                              with_reducible rfl
                                            rotate_left
                                            · simp only [Act.put, List.setIfInBounds_toArray, List.set_cons_zero, List.set_cons_succ, i64_w, i32_w]
                                              rfl
                                            refine pure_ (i := 23) (N := some 104) (v := ?_) (a' := ?_) #[true, true, true, true, true, true, true, true, true, true, true, true, true, true, true, true, true, true, true, true, false, true, true, true, false, false, false, false, false, false, false, false, false, false, false, false, false, false, false, false, false, false, false] rfl rfl (any_of HT_.out (by kernel_rfl)) (fun _ _ _ h => h) (Or.inl ⟨by rfl, ?_⟩) ?_ ?_
                                            rotate_left
                                            · intro w'
                                              go_simp
                                              with_reducible rfl
                                            rotate_left
                                            · simp only [Act.put, List.setIfInBounds_toArray, List.set_cons_zero, List.set_cons_succ, i64_w, i32_w]
                                              rfl
                                            refine pure_ (i := 24) (N := some 105) (v := ?_) (a' := ?_) #[true, true, true, true, true, true, true, true, true, true, true, true, true, true, true, true, true, true, true, true, false, true, true, true, true, false, false, false, false, false, false, false, false, false, false, false, false, false, false, false, false, false, false] rfl rfl (any_of HT_.out (by kernel_rfl)) (fun _ _ _ h => h) (Or.inl ⟨by rfl, ?_⟩) ?_ ?_
                                            rotate_left
                                            · intro w'
                                              go_simp
                                              with_reducible rfl
                                            rotate_left
                                            · simp only [Act.put, List.setIfInBounds_toArray, List.set_cons_zero, List.set_cons_succ, i64_w, i32_w]
                                              rfl
                                            refine take_ (i := 20) (N := some 101) (v := ?_) (a' := ?_) #[true, true, true, true, true, true, true, true, true, true, true, true, true, true, true, true, true, true, true, true, true, true, true, true, true, false, false, false, false, false, false, false, false, false, false, false, false, false, false, false, false, false, false] rfl rfl (take_ofW HT_.out HW_.out (by kernel_rfl)) (fun _ _ _ h => h) (Or.inl ⟨by rfl, ?_⟩) hHeld ?_ ?_
                                            rotate_left
                                            · rintro w' ⟨s0, s1, s2, s3, s4, s5, s6, s7, s8, s9, s10, s11, s12, s13, s14, s15, s16, s17, s18, s19, s20, s21, s22, s23, s24, s25, s26, s27, s28, s29⟩
                                              go_simp
                                              with_reducible rfl
                                            rotate_left
                                            · simp only [Act.put, List.setIfInBounds_toArray, List.set_cons_zero, List.set_cons_succ, i64_w, i32_w]
                                              rfl
                                            refine take_ (i := 25) (N := some 106) (v := ?_) (a' := ?_) #[true, true, true, true, true, true, true, true, true, true, true, true, true, true, true, true, true, true, true, true, true, true, true, true, true, true, false, false, false, false, false, false, false, false, false, false, false, false, false, false, false, false, false] rfl rfl (take_ofW HT_.out HW_.out (by kernel_rfl)) (fun _ _ _ h => h) (Or.inl ⟨by rfl, ?_⟩) hHeld ?_ ?_
                                            rotate_left
                                            · rintro w' ⟨s0, s1, s2, s3, s4, s5, s6, s7, s8, s9, s10, s11, s12, s13, s14, s15, s16, s17, s18, s19, s20, s21, s22, s23, s24, s25, s26, s27, s28, s29⟩
                                              go_simp
                                              with_reducible rfl
                                            rotate_left
                                            · simp only [Act.put, List.setIfInBounds_toArray, List.set_cons_zero, List.set_cons_succ, i64_w, i32_w]
                                              rfl
                                            refine pure_ (i := 26) (N := some 107) (v := ?_) (a' := ?_) #[true, true, true, true, true, true, true, true, true, true, true, true, true, true, true, true, true, true, true, true, true, true, true, true, true, true, true, false, false, false, false, false, false, false, false, false, false, false, false, false, false, false, false] rfl rfl (any_of HT_.out (by kernel_rfl)) (fun _ _ _ h => h) (Or.inl ⟨by rfl, ?_⟩) ?_ ?_
                                            rotate_left
                                            · intro w'
                                              go_simp
                                              with_reducible rfl
                                            rotate_left
                                            · simp only [Act.put, List.setIfInBounds_toArray, List.set_cons_zero, List.set_cons_succ, i64_w, i32_w]
                                              rfl
                                            refine pure_ (i := 27) (N := some 108) (v := ?_) (a' := ?_) #[true, true, true, true, true, true, true, true, true, true, true, true, true, true, true, true, true, true, true, true, true, true, true, true, true, true, true, true, false, false, false, false, false, false, false, false, false, false, false, false, false, false, false] rfl rfl (any_of HT_.out (by kernel_rfl)) (fun _ _ _ h => h) (Or.inl ⟨by rfl, ?_⟩) ?_ ?_
                                            rotate_left
                                            · intro w'
                                              go_simp
                                              with_reducible rfl
                                            rotate_left
                                            · simp only [Act.put, List.setIfInBounds_toArray, List.set_cons_zero, List.set_cons_succ, i64_w, i32_w]
                                              rfl
                                            refine pure_ (i := 28) (N := some 109) (v := ?_) (a' := ?_) #[true, true, true, true, true, true, true, true, true, true, true, true, true, true, true, true, true, true, true, true, true, true, true, true, true, true, true, true, true, false, false, false, false, false, false, false, false, false, false, false, false, false, false] rfl rfl (any_of HT_.out (by kernel_rfl)) (fun _ _ _ h => h) (Or.inl ⟨by rfl, ?_⟩) ?_ ?_
                                            rotate_left
                                            · intro w'
                                              go_simp
                                              with_reducible rfl
                                            rotate_left
                                            · simp only [Act.put, List.setIfInBounds_toArray, List.set_cons_zero, List.set_cons_succ, i64_w, i32_w]
                                              rfl
                                            refine pure_ (i := 29) (N := some 110) (v := ?_) (a' := ?_) #[true, true, true, true, true, true, true, true, true, true, true, true, true, true, true, true, true, true, true, true, true, true, true, true, true, true, true, true, true, true, false, false, false, false, false, false, false, false, false, false, false, false, false] rfl rfl (any_of HT_.out (by kernel_rfl)) (fun _ _ _ h => h) (Or.inl ⟨by rfl, ?_⟩) ?_ ?_
                                            rotate_left
                                            · intro w'
                                              go_simp
                                              with_reducible rfl
                                            rotate_left
                                            · simp only [Act.put, List.setIfInBounds_toArray, List.set_cons_zero, List.set_cons_succ, i64_w, i32_w]
                                              rfl
                                            refine pure_ (i := 30) (N := some 111) (v := ?_) (a' := ?_) #[true, true, true, true, true, true, true, true, true, true, true, true, true, true, true, true, true, true, true, true, true, true, true, true, true, true, true, true, true, true, true, false, false, false, false, false, false, false, false, false, false, false, false] rfl rfl (any_of HT_.out (by kernel_rfl)) (fun _ _ _ h => h) (Or.inl ⟨by rfl, ?_⟩) ?_ ?_
                                            rotate_left
                                            · intro w'
                                              go_simp
                                              with_reducible rfl
                                            rotate_left
                                            · simp only [Act.put, List.setIfInBounds_toArray, List.set_cons_zero, List.set_cons_succ, i64_w, i32_w]
                                              rfl
                                            refine pure_ (i := 31) (N := some 112) (v := ?_) (a' := ?_) #[true, true, true, true, true, true, true, true, true, true, true, true, true, true, true, true, true, true, true, true, true, true, true, true, true, true, true, true, true, true, true, true, false, false, false, false, false, false, false, false, false, false, false] rfl rfl (any_of HT_.out (by kernel_rfl)) (fun _ _ _ h => h) (Or.inl ⟨by rfl, ?_⟩) ?_ ?_
                                            rotate_left
                                            · intro w'
                                              go_simp
                                              with_reducible rfl
                                            rotate_left
                                            · simp only [Act.put, List.setIfInBounds_toArray, List.set_cons_zero, List.set_cons_succ, i64_w, i32_w]
                                              rfl
                                            refine pure_ (i := 32) (N := some 113) (v := ?_) (a' := ?_) #[true, true, true, true, true, true, true, true, true, true, true, true, true, true, true, true, true, true, true, true, true, true, true, true, true, true, true, true, true, true, true, true, true, false, false, false, false, false, false, false, false, false, false] rfl rfl (any_of HT_.out (by kernel_rfl)) (fun _ _ _ h => h) (Or.inl ⟨by rfl, ?_⟩) ?_ ?_
                                            rotate_left
                                            · intro w'
                                              go_simp
                                              with_reducible rfl
                                            rotate_left
                                            · simp only [Act.put, List.setIfInBounds_toArray, List.set_cons_zero, List.set_cons_succ, i64_w, i32_w]
                                              rfl
                                            refine pure_ (i := 33) (N := some 114) (v := ?_) (a' := ?_) #[true, true, true, true, true, true, true, true, true, true, true, true, true, true, true, true, true, true, true, true, true, true, true, true, true, true, true, true, true, true, true, true, true, true, false, false, false, false, false, false, false, false, false] rfl rfl (any_of HT_.out (by kernel_rfl)) (fun _ _ _ h => h) (Or.inl ⟨by rfl, ?_⟩) ?_ ?_
                                            rotate_left
                                            · intro w'
                                              go_simp
                                              with_reducible rfl
                                            rotate_left
                                            · simp only [Act.put, List.setIfInBounds_toArray, List.set_cons_zero, List.set_cons_succ, i64_w, i32_w]
                                              rfl
                                            refine pure_ (i := 35) (N := some 116) (v := ?_) (a' := ?_) #[true, true, true, true, true, true, true, true, true, true, true, true, true, true, true, true, true, true, true, true, true, true, true, true, true, true, true, true, true, true, true, true, true, true, false, true, false, false, false, false, false, false, false] rfl rfl (any_of HT_.out (by kernel_rfl)) (fun _ _ _ h => h) (Or.inl ⟨by rfl, ?_⟩) ?_ ?_
                                            rotate_left
                                            · intro w'
                                              go_simp
                                              with_reducible rfl
                                            rotate_left
                                            · simp only [Act.put, List.setIfInBounds_toArray, List.set_cons_zero, List.set_cons_succ, i64_w, i32_w]
                                              rfl
                                            refine pure_ (i := 36) (N := some 117) (v := ?_) (a' := ?_) #[true, true, true, true, true, true, true, true, true, true, true, true, true, true, true, true, true, true, true, true, true, true, true, true, true, true, true, true, true, true, true, true, true, true, false, true, true, false, false, false, false, false, false] rfl rfl (any_of HT_.out (by kernel_rfl)) (fun _ _ _ h => h) (Or.inl ⟨by rfl, ?_⟩) ?_ ?_
                                            rotate_left
                                            · intro w'
                                              go_simp
                                              with_reducible rfl
                                            rotate_left
                                            · simp only [Act.put, List.setIfInBounds_toArray, List.set_cons_zero, List.set_cons_succ, i64_w, i32_w]
                                              rfl
                                            refine pure_ (i := 37) (N := some 118) (v := ?_) (a' := ?_) #[true, true, true, true, true, true, true, true, true, true, true, true, true, true, true, true, true, true, true, true, true, true, true, true, true, true, true, true, true, true, true, true, true, true, false, true, true, true, false, false, false, false, false] rfl rfl (any_of HT_.out (by kernel_rfl)) (fun _ _ _ h => h) (Or.inl ⟨by rfl, ?_⟩) ?_ ?_
                                            rotate_left
                                            · intro w'
                                              go_simp
                                              with_reducible rfl
                                            rotate_left
                                            · simp only [Act.put, List.setIfInBounds_toArray, List.set_cons_zero, List.set_cons_succ, i64_w, i32_w]
                                              rfl
                                            refine pure_ (i := 38) (N := some 119) (v := ?_) (a' := ?_) #[true, true, true, true, true, true, true, true, true, true, true, true, true, true, true, true, true, true, true, true, true, true, true, true, true, true, true, true, true, true, true, true, true, true, false, true, true, true, true, false, false, false, false] rfl rfl (any_of HT_.out (by kernel_rfl)) (fun _ _ _ h => h) (Or.inl ⟨by rfl, ?_⟩) ?_ ?_
                                            rotate_left
                                            · intro w'
                                              go_simp
                                              with_reducible rfl
                                            rotate_left
                                            · simp only [Act.put, List.setIfInBounds_toArray, List.set_cons_zero, List.set_cons_succ, i64_w, i32_w]
                                              rfl
                                            refine take_ (i := 34) (N := some 115) (v := ?_) (a' := ?_) #[true, true, true, true, true, true, true, true, true, true, true, true, true, true, true, true, true, true, true, true, true, true, true, true, true, true, true, true, true, true, true, true, true, true, true, true, true, true, true, false, false, false, false] rfl rfl (take_ofW HT_.out HW_.out (by kernel_rfl)) (fun _ _ _ h => h) (Or.inl ⟨by rfl, ?_⟩) hHeld ?_ ?_
                                            rotate_left
                                            · rintro w' ⟨s0, s1, s2, s3, s4, s5, s6, s7, s8, s9, s10, s11, s12, s13, s14, s15, s16, s17, s18, s19, s20, s21, s22, s23, s24, s25, s26, s27, s28, s29⟩
                                              go_simp
                                              with_reducible rfl
                                            rotate_left
                                            · simp only [Act.put, List.setIfInBounds_toArray, List.set_cons_zero, List.set_cons_succ, i64_w, i32_w]
                                              rfl
                                            refine take_ (i := 39) (N := some 120) (v := ?_) (a' := ?_) #[true, true, true, true, true, true, true, true, true, true, true, true, true, true, true, true, true, true, true, true, true, true, true, true, true, true, true, true, true, true, true, true, true, true, true, true, true, true, true, true, false, false, false] rfl rfl (take_ofW HT_.out HW_.out (by kernel_rfl)) (fun _ _ _ h => h) (Or.inl ⟨by rfl, ?_⟩) hHeld ?_ ?_
                                            rotate_left
                                            · rintro w' ⟨s0, s1, s2, s3, s4, s5, s6, s7, s8, s9, s10, s11, s12, s13, s14, s15, s16, s17, s18, s19, s20, s21, s22, s23, s24, s25, s26, s27, s28, s29⟩
                                              go_simp
                                              with_reducible rfl
                                            rotate_left
                                            · simp only [Act.put, List.setIfInBounds_toArray, List.set_cons_zero, List.set_cons_succ, i64_w, i32_w]
                                              rfl
                                            refine one_ (i := 40) (N := some 121) #[true, true, true, true, true, true, true, true, true, true, true, true, true, true, true, true, true, true, true, true, true, true, true, true, true, true, true, true, true, true, true, true, true, true, true, true, true, true, true, true, true, false, false] rfl rfl (one_of HT_.out (by kernel_rfl)) (by decide) (fun K hK => ?_)
                                            refine goes_ Try.func16 (by kernel_rfl) rfl #[.slice A341_4 ((rd_T34 t338 (ji43)).f4).length c341_4, .slice A342_4 ((rd_T34 t335 x78_4).f4).length c342_4] (by rfl) rfl rfl (by (try simp only [List.map_toArray, List.map_cons, List.map_nil]); first | done | (simp only [hji43]; rfl) | rfl | (simp only [List.length_drop, List.length_take]; rfl)) ?_
                                            with_reducible refine (laws_sameBools.calls k4 _ _ ((rd_T34 t338 (ji43)).f4) _ _ ((rd_T34 t335 x78_4).f4) false _ ?side1 ?side2 ?side3 ?side4 A50.out).mono ?_
                                            (case side1 => repeat (first | exact (by repeat (first | (with_reducible exact HR345_4.out) | (with_reducible refine Kd.C_alloc ?_ _) | (with_reducible refine Kd.C_drewN ?_ _) | (with_reducible refine Kd.C_drew ?_) | exact HR345_4.out)) | (with_reducible refine Kd.C_alloc ?_ _) | (with_reducible refine Kd.C_drewN ?_ _) | (with_reducible refine Kd.C_drew ?_)))
                                            (case side2 => exact HC345_4.out)
                                            (case side3 => repeat (first | exact (by repeat (first | (with_reducible exact HR346_4.out) | (with_reducible refine Kd.C_alloc ?_ _) | (with_reducible refine Kd.C_drewN ?_ _) | (with_reducible refine Kd.C_drew ?_) | exact HR346_4.out)) | (with_reducible refine Kd.C_alloc ?_ _) | (with_reducible refine Kd.C_drewN ?_ _) | (with_reducible refine Kd.C_drew ?_)))
                                            (case side4 => exact HC346_4.out)
                                            rintro e w' ⟨rfl, ⟨nd, rfl⟩⟩
                                            refine ⟨_, rfl, ?_⟩
                                            refine hK.out _ _ ⟨hHeld.1, hHeld.2.1, hHeld.2.2.1, hHeld.2.2.2.1, hHeld.2.2.2.2.1, hHeld.2.2.2.2.2.1, hHeld.2.2.2.2.2.2.1, hHeld.2.2.2.2.2.2.2.1, hHeld.2.2.2.2.2.2.2.2.1, hHeld.2.2.2.2.2.2.2.2.2.1, hHeld.2.2.2.2.2.2.2.2.2.2.1, hHeld.2.2.2.2.2.2.2.2.2.2.2.1, hHeld.2.2.2.2.2.2.2.2.2.2.2.2.1, hHeld.2.2.2.2.2.2.2.2.2.2.2.2.2.1, hHeld.2.2.2.2.2.2.2.2.2.2.2.2.2.2.1, hHeld.2.2.2.2.2.2.2.2.2.2.2.2.2.2.2.1, hHeld.2.2.2.2.2.2.2.2.2.2.2.2.2.2.2.2.1, hHeld.2.2.2.2.2.2.2.2.2.2.2.2.2.2.2.2.2.1, hHeld.2.2.2.2.2.2.2.2.2.2.2.2.2.2.2.2.2.2.1, hHeld.2.2.2.2.2.2.2.2.2.2.2.2.2.2.2.2.2.2.2.1, hHeld.2.2.2.2.2.2.2.2.2.2.2.2.2.2.2.2.2.2.2.2.1, hHeld.2.2.2.2.2.2.2.2.2.2.2.2.2.2.2.2.2.2.2.2.2.1, hHeld.2.2.2.2.2.2.2.2.2.2.2.2.2.2.2.2.2.2.2.2.2.2.1, hHeld.2.2.2.2.2.2.2.2.2.2.2.2.2.2.2.2.2.2.2.2.2.2.2.1, hHeld.2.2.2.2.2.2.2.2.2.2.2.2.2.2.2.2.2.2.2.2.2.2.2.2.1, hHeld.2.2.2.2.2.2.2.2.2.2.2.2.2.2.2.2.2.2.2.2.2.2.2.2.2.1, hHeld.2.2.2.2.2.2.2.2.2.2.2.2.2.2.2.2.2.2.2.2.2.2.2.2.2.2.1, hHeld.2.2.2.2.2.2.2.2.2.2.2.2.2.2.2.2.2.2.2.2.2.2.2.2.2.2.2.1, hHeld.2.2.2.2.2.2.2.2.2.2.2.2.2.2.2.2.2.2.2.2.2.2.2.2.2.2.2.2.1, hHeld.2.2.2.2.2.2.2.2.2.2.2.2.2.2.2.2.2.2.2.2.2.2.2.2.2.2.2.2.2⟩ (fun hHeld => ?_)
                                            clear hK K
                                            refine norm_ (a' := ?_) ?_ ?_
                                            rotate_left
                                            · show Act.put _ (some 121) _ = _
                                              simp only [Act.put, List.setIfInBounds_toArray, List.set_cons_zero, List.set_cons_succ, i64_w, i32_w]
                                              rfl
                                            refine pure_ (i := 41) (N := some 122) (v := ?_) (a' := ?_) #[true, true, true, true, true, true, true, true, true, true, true, true, true, true, true, true, true, true, true, true, true, true, true, true, true, true, true, true, true, true, true, true, true, true, true, true, true, true, true, true, true, true, false] rfl rfl (any_of HT_.out (by kernel_rfl)) (fun _ _ _ h => h) (Or.inl ⟨by rfl, ?_⟩) ?_ ?_
                                            rotate_left
                                            · intro w'
                                              go_simp
                                              with_reducible rfl
                                            rotate_left
                                            · simp only [Act.put, List.setIfInBounds_toArray, List.set_cons_zero, List.set_cons_succ, i64_w, i32_w]
                                              rfl
                                            refine pure_ (i := 42) (N := some 123) (v := ?_) (a' := ?_) #[true, true, true, true, true, true, true, true, true, true, true, true, true, true, true, true, true, true, true, true, true, true, true, true, true, true, true, true, true, true, true, true, true, true, true, true, true, true, true, true, true, true, true] rfl rfl (any_of HT_.out (by kernel_rfl)) (fun _ _ _ h => h) (Or.inl ⟨by rfl, ?_⟩) ?_ ?_
                                            rotate_left
                                            · intro w'
                                              go_simp
                                              with_reducible rfl
                                            rotate_left
                                            · simp only [Act.put, List.setIfInBounds_toArray, List.set_cons_zero, List.set_cons_succ, i64_w, i32_w]
                                              rfl
                                            refine done_ (done_of HT_.out (by kernel_rfl)) ?_
                                            try go_wp2
                                            go_ret
                                            exact ⟨by first | rfl | (simp [errW_none, errW_some] <;> rfl) | (simp only [← hji43]; first | rfl | (simp [errW_none, errW_some] <;> rfl)) | (simp [*, errW_none, errW_some] <;> rfl), by repeat (first | (with_reducible first | exact HB.out | apply below_alloc | apply pw_below_drewN | apply below_drew1) | exact HB.out)⟩
                                        · rw [if_neg c49] at H
                                          have c49b0 : (((rd_T34 t338 (ji43)).f2) == ((rd_T34 t335 x78_4).f2)) = false := beq_eq_false_iff_ne.mpr c49
                                          have c49b1 : (((rd_T34 t338 (ji43)).f2) != ((rd_T34 t335 x78_4).f2)) = true := bne_iff_ne.mpr c49
                                          obtain rfl := Option.some.inj H
                                          try go_wp2
                                          have n0_ := Aside0.mk (Kd.N_drew HO_10.out)
                                          have n1_ := Aside0.mk (Kd.N_drew HO_11.out)
                                          have n2_ := Aside0.mk (below_drew1 HB.out)
                                          clear HO_10
                                          clear HO_11
                                          clear HB
                                          have HO_10 := n0_
                                          have HO_11 := n1_
                                          have HB := n2_
                                          clear n0_ n1_ n2_
                                          obtain ⟨Ao57, co57, eo57⟩ := Kd.N_slice HO_11.out
                                          (first | subst eo57 | (injection eo57 with f1_ f2_ f3_; have f4_ := f1_.symm; have f5_ := f3_.symm; clear f1_ f2_ f3_; subst f4_; subst f5_))
                                          have p341 : 0 ≤ ((ji43) : Int) := of_decide_eq_true (by first | (with_reducible assumption) | assumption)
                                          have q341 : (ji43) < (t338.length : Int) := of_decide_eq_true (by first | (with_reducible assumption) | assumption)
                                          obtain ⟨ad341, A341_4, c341_4, e341, hx341_0, hx341_1, hx341_2, hx341_3, hx341_4, hl341_4, hi341_4⟩ := at_T34 (Kd.N_reads' HO_11.out).2.2 (ji43) p341 q341
                                          cases e341
                                          obtain ⟨ce341, hce341, hMe341, hcc341⟩ := Kd.N_get HO_11.out z34 (ji43) p341 (by first | exact q341 | exact of_decide_eq_true (by first | (with_reducible assumption) | assumption) | (have e_ := (Kd.N_reads' HO_11.out).1; omega))
                                          obtain ⟨ua341_4, uc341_4, rfl, ul341_4, ge341_4⟩ := k34_openF hMe341
                                          have hv341_4 := hcc341 4 _ rfl
                                          rw [add_field _ _ 4 (by omega)] at hv341_4
                                          replace hv341_4 := Option.some.inj (hv341_4.symm.trans hx341_4)
                                          injection hv341_4 with hva_ hvn_ hvc_
                                          rw [hva_] at ge341_4
                                          rw [hvc_] at ul341_4
                                          have HL341_4 := Aside0.mk (show Kd.V Kd.bool 4 _ w.heap.size _ _ ((rd_T34 t338 (ji43)).f4) from Kd.V_mk ul341_4 ge341_4)
                                          clear hva_ hvn_ hvc_ ge341_4 ul341_4
                                          clear hcc341 hce341
                                          have HR341_4 := Aside0.mk hi341_4
                                          have HC341_4 := Aside0.mk hl341_4
                                          clear hi341_4 hl341_4
                                          replace p341 := eq_true p341
                                          replace q341 := eq_true q341
                                          have p342 : 0 ≤ (x78_4 : Int) := of_decide_eq_true (by first | (with_reducible assumption) | assumption)
                                          have q342 : x78_4 < (t335.length : Int) := of_decide_eq_true (by first | (with_reducible assumption) | assumption)
                                          obtain ⟨ad342, A342_4, c342_4, e342, hx342_0, hx342_1, hx342_2, hx342_3, hx342_4, hl342_4, hi342_4⟩ := at_T34 (Kd.N_reads' HO_10.out).2.2 x78_4 p342 q342
                                          cases e342
                                          obtain ⟨ce342, hce342, hMe342, hcc342⟩ := Kd.N_get HO_10.out z34 x78_4 p342 (by first | exact q342 | exact of_decide_eq_true (by first | (with_reducible assumption) | assumption) | (have e_ := (Kd.N_reads' HO_10.out).1; omega))
                                          obtain ⟨ua342_4, uc342_4, rfl, ul342_4, ge342_4⟩ := k34_openF hMe342
                                          have hv342_4 := hcc342 4 _ rfl
                                          rw [add_field _ _ 4 (by omega)] at hv342_4
                                          replace hv342_4 := Option.some.inj (hv342_4.symm.trans hx342_4)
                                          injection hv342_4 with hva_ hvn_ hvc_
                                          rw [hva_] at ge342_4
                                          rw [hvc_] at ul342_4
                                          have HL342_4 := Aside0.mk (show Kd.V Kd.bool 4 _ w.heap.size _ _ ((rd_T34 t335 x78_4).f4) from Kd.V_mk ul342_4 ge342_4)
                                          clear hva_ hvn_ hvc_ ge342_4 ul342_4
                                          clear hcc342 hce342
                                          have HR342_4 := Aside0.mk hi342_4
                                          have HC342_4 := Aside0.mk hl342_4
                                          clear hi342_4 hl342_4
                                          replace p342 := eq_true p342
                                          replace q342 := eq_true q342
                                          have p343 : 0 ≤ ((ji43) : Int) := of_decide_eq_true (by first | (with_reducible assumption) | assumption)
                                          have q343 : (ji43) < (t338.length : Int) := of_decide_eq_true (by first | (with_reducible assumption) | assumption)
                                          obtain ⟨ad343, A343_4, c343_4, e343, hx343_0, hx343_1, hx343_2, hx343_3, hx343_4, hl343_4, hi343_4⟩ := at_T34 (Kd.N_reads' HO_11.out).2.2 (ji43) p343 q343
                                          obtain rfl : ad341 = ad343 := (by injection e343)
                                          obtain ⟨ce343, hce343, hMe343, hcc343⟩ := Kd.N_get HO_11.out z34 (ji43) p343 (by first | exact q343 | exact of_decide_eq_true (by first | (with_reducible assumption) | assumption) | (have e_ := (Kd.N_reads' HO_11.out).1; omega))
                                          obtain ⟨ua343_4, uc343_4, rfl, ul343_4, ge343_4⟩ := k34_openF hMe343
                                          have hv343_4 := hcc343 4 _ rfl
                                          rw [add_field _ _ 4 (by omega)] at hv343_4
                                          replace hv343_4 := Option.some.inj (hv343_4.symm.trans hx343_4)
                                          injection hv343_4 with hva_ hvn_ hvc_
                                          rw [hva_] at ge343_4
                                          rw [hvc_] at ul343_4
                                          have HL343_4 := Aside0.mk (show Kd.V Kd.bool 4 _ w.heap.size _ _ ((rd_T34 t338 (ji43)).f4) from Kd.V_mk ul343_4 ge343_4)
                                          clear hva_ hvn_ hvc_ ge343_4 ul343_4
                                          clear hcc343 hce343
                                          have HR343_4 := Aside0.mk hi343_4
                                          have HC343_4 := Aside0.mk hl343_4
                                          clear hi343_4 hl343_4
                                          replace p343 := eq_true p343
                                          replace q343 := eq_true q343
                                          have ea_ := Option.some.inj (hx341_4.symm.trans hx343_4)
                                          injection ea_ with ea_ en_ ec_
                                          subst ea_
                                          subst ec_
                                          clear en_
                                          have p344 : 0 ≤ (x78_4 : Int) := of_decide_eq_true (by first | (with_reducible assumption) | assumption)
                                          have q344 : x78_4 < (t335.length : Int) := of_decide_eq_true (by first | (with_reducible assumption) | assumption)
                                          obtain ⟨ad344, A344_4, c344_4, e344, hx344_0, hx344_1, hx344_2, hx344_3, hx344_4, hl344_4, hi344_4⟩ := at_T34 (Kd.N_reads' HO_10.out).2.2 x78_4 p344 q344
                                          obtain rfl : ad342 = ad344 := (by injection e344)
                                          obtain ⟨ce344, hce344, hMe344, hcc344⟩ := Kd.N_get HO_10.out z34 x78_4 p344 (by first | exact q344 | exact of_decide_eq_true (by first | (with_reducible assumption) | assumption) | (have e_ := (Kd.N_reads' HO_10.out).1; omega))
                                          obtain ⟨ua344_4, uc344_4, rfl, ul344_4, ge344_4⟩ := k34_openF hMe344
                                          have hv344_4 := hcc344 4 _ rfl
                                          rw [add_field _ _ 4 (by omega)] at hv344_4
                                          replace hv344_4 := Option.some.inj (hv344_4.symm.trans hx344_4)
                                          injection hv344_4 with hva_ hvn_ hvc_
                                          rw [hva_] at ge344_4
                                          rw [hvc_] at ul344_4
                                          have HL344_4 := Aside0.mk (show Kd.V Kd.bool 4 _ w.heap.size _ _ ((rd_T34 t335 x78_4).f4) from Kd.V_mk ul344_4 ge344_4)
                                          clear hva_ hvn_ hvc_ ge344_4 ul344_4
                                          clear hcc344 hce344
                                          have HR344_4 := Aside0.mk hi344_4
                                          have HC344_4 := Aside0.mk hl344_4
                                          clear hi344_4 hl344_4
                                          replace p344 := eq_true p344
                                          replace q344 := eq_true q344
                                          have ea_ := Option.some.inj (hx342_4.symm.trans hx344_4)
                                          injection ea_ with ea_ en_ ec_
                                          subst ea_
                                          subst ec_
                                          clear en_
                                          refine start_ (n := 43) (S := fun w' => w'.cell? (ad341.add (((ji43)).toNat * 5)) = some (.int .i64 ((rd_T34 t338 (ji43)).f0)) ∧ w'.cell? ⟨(ad341.add (((ji43)).toNat * 5)).block, (ad341.add (((ji43)).toNat * 5)).off + 1, none⟩ = some (.int .i64 ((rd_T34 t338 (ji43)).f1)) ∧ w'.cell? ⟨(ad341.add (((ji43)).toNat * 5)).block, (ad341.add (((ji43)).toNat * 5)).off + 2, none⟩ = some (.int .i64 ((rd_T34 t338 (ji43)).f2)) ∧ w'.cell? ⟨(ad341.add (((ji43)).toNat * 5)).block, (ad341.add (((ji43)).toNat * 5)).off + 3, none⟩ = some (.int .i64 ((rd_T34 t338 (ji43)).f3)) ∧ w'.cell? ⟨(ad341.add (((ji43)).toNat * 5)).block, (ad341.add (((ji43)).toNat * 5)).off + 4, none⟩ = some (.slice A341_4 ((rd_T34 t338 (ji43)).f4).length c341_4) ∧ w'.cell? (ad342.add ((x78_4).toNat * 5)) = some (.int .i64 ((rd_T34 t335 x78_4).f0)) ∧ w'.cell? ⟨(ad342.add ((x78_4).toNat * 5)).block, (ad342.add ((x78_4).toNat * 5)).off + 1, none⟩ = some (.int .i64 ((rd_T34 t335 x78_4).f1)) ∧ w'.cell? ⟨(ad342.add ((x78_4).toNat * 5)).block, (ad342.add ((x78_4).toNat * 5)).off + 2, none⟩ = some (.int .i64 ((rd_T34 t335 x78_4).f2)) ∧ w'.cell? ⟨(ad342.add ((x78_4).toNat * 5)).block, (ad342.add ((x78_4).toNat * 5)).off + 3, none⟩ = some (.int .i64 ((rd_T34 t335 x78_4).f3)) ∧ w'.cell? ⟨(ad342.add ((x78_4).toNat * 5)).block, (ad342.add ((x78_4).toNat * 5)).off + 4, none⟩ = some (.slice A342_4 ((rd_T34 t335 x78_4).f4).length c342_4) ∧ w'.cell? (ad341.add (((ji43)).toNat * 5)) = some (.int .i64 ((rd_T34 t338 (ji43)).f0)) ∧ w'.cell? ⟨(ad341.add (((ji43)).toNat * 5)).block, (ad341.add (((ji43)).toNat * 5)).off + 1, none⟩ = some (.int .i64 ((rd_T34 t338 (ji43)).f1)) ∧ w'.cell? ⟨(ad341.add (((ji43)).toNat * 5)).block, (ad341.add (((ji43)).toNat * 5)).off + 2, none⟩ = some (.int .i64 ((rd_T34 t338 (ji43)).f2)) ∧ w'.cell? ⟨(ad341.add (((ji43)).toNat * 5)).block, (ad341.add (((ji43)).toNat * 5)).off + 3, none⟩ = some (.int .i64 ((rd_T34 t338 (ji43)).f3)) ∧ w'.cell? ⟨(ad341.add (((ji43)).toNat * 5)).block, (ad341.add (((ji43)).toNat * 5)).off + 4, none⟩ = some (.slice A341_4 ((rd_T34 t338 (ji43)).f4).length c341_4) ∧ w'.cell? (ad342.add ((x78_4).toNat * 5)) = some (.int .i64 ((rd_T34 t335 x78_4).f0)) ∧ w'.cell? ⟨(ad342.add ((x78_4).toNat * 5)).block, (ad342.add ((x78_4).toNat * 5)).off + 1, none⟩ = some (.int .i64 ((rd_T34 t335 x78_4).f1)) ∧ w'.cell? ⟨(ad342.add ((x78_4).toNat * 5)).block, (ad342.add ((x78_4).toNat * 5)).off + 2, none⟩ = some (.int .i64 ((rd_T34 t335 x78_4).f2)) ∧ w'.cell? ⟨(ad342.add ((x78_4).toNat * 5)).block, (ad342.add ((x78_4).toNat * 5)).off + 3, none⟩ = some (.int .i64 ((rd_T34 t335 x78_4).f3)) ∧ w'.cell? ⟨(ad342.add ((x78_4).toNat * 5)).block, (ad342.add ((x78_4).toNat * 5)).off + 4, none⟩ = some (.slice A342_4 ((rd_T34 t335 x78_4).f4).length c342_4)) (ds := []) #[false, false, false, false, false, false, false, false, false, false, false, false, false, false, false, false, false, false, false, false, false, false, false, false, false, false, false, false, false, false, false, false, false, false, false, false, false, false, false, false, false, false, false] (by kernel_rfl) rfl rfl ⟨hx341_0, hx341_1, hx341_2, hx341_3, hx341_4, hx342_0, hx342_1, hx342_2, hx342_3, hx342_4, hx343_0, hx343_1, hx343_2, hx343_3, hx343_4, hx344_0, hx344_1, hx344_2, hx344_3, hx344_4⟩ (fun hHeld => ?_); refine with_tabW laws_FnMarkSet.tab16 laws_FnMarkSet.bits16 (fun HT_ HW_ => ?_)
                                          generalize wr.drew = w56 at HO_10 HO_11 HB HL341_4 HL342_4 HL343_4 HL344_4 HR341_4 HR342_4 HR343_4 HR344_4 hx341_0 hx341_1 hx341_2 hx341_3 hx341_4 hx342_0 hx342_1 hx342_2 hx342_3 hx342_4 hx343_0 hx343_1 hx343_2 hx343_3 hx343_4 hx344_0 hx344_1 hx344_2 hx344_3 hx344_4 hHeld ⊢
                                          refine pure_ (i := 0) (N := some 81) (v := ?_) (a' := ?_) #[true, false, false, false, false, false, false, false, false, false, false, false, false, false, false, false, false, false, false, false, false, false, false, false, false, false, false, false, false, false, false, false, false, false, false, false, false, false, false, false, false, false, false] rfl rfl (any_of HT_.out (by kernel_rfl)) (fun _ _ _ h => h) (Or.inl ⟨by rfl, ?_⟩) ?_ ?_
                                          rotate_left
                                          · intro w'
                                            go_simp
                                            with_reducible rfl
                                          rotate_left
                                          · simp only [Act.put, List.setIfInBounds_toArray, List.set_cons_zero, List.set_cons_succ, i64_w, i32_w]
                                            rfl
                                          refine pure_ (i := 1) (N := some 82) (v := ?_) (a' := ?_) #[true, true, false, false, false, false, false, false, false, false, false, false, false, false, false, false, false, false, false, false, false, false, false, false, false, false, false, false, false, false, false, false, false, false, false, false, false, false, false, false, false, false, false] rfl rfl (any_of HT_.out (by kernel_rfl)) (fun _ _ _ h => h) (Or.inl ⟨by rfl, ?_⟩) ?_ ?_
                                          rotate_left
                                          · intro w'
                                            go_simp
                                            with_reducible rfl
                                          rotate_left
                                          · simp only [Act.put, List.setIfInBounds_toArray, List.set_cons_zero, List.set_cons_succ, i64_w, i32_w]
                                            rfl
                                          refine pure_ (i := 2) (N := some 83) (v := ?_) (a' := ?_) #[true, true, true, false, false, false, false, false, false, false, false, false, false, false, false, false, false, false, false, false, false, false, false, false, false, false, false, false, false, false, false, false, false, false, false, false, false, false, false, false, false, false, false] rfl rfl (any_of HT_.out (by kernel_rfl)) (fun _ _ _ h => h) (Or.inl ⟨by rfl, ?_⟩) ?_ ?_
                                          rotate_left
                                          · intro w'
                                            go_simp
                                            with_reducible rfl
                                          rotate_left
                                          · simp only [Act.put, List.setIfInBounds_toArray, List.set_cons_zero, List.set_cons_succ, i64_w, i32_w]
                                            rfl
                                          refine pure_ (i := 3) (N := some 84) (v := ?_) (a' := ?_) #[true, true, true, true, false, false, false, false, false, false, false, false, false, false, false, false, false, false, false, false, false, false, false, false, false, false, false, false, false, false, false, false, false, false, false, false, false, false, false, false, false, false, false] rfl rfl (any_of HT_.out (by kernel_rfl)) (fun _ _ _ h => h) (Or.inl ⟨by rfl, ?_⟩) ?_ ?_
                                          rotate_left
                                          · intro w'
                                            go_simp
                                            with_reducible rfl
                                          rotate_left
                                          · simp only [Act.put, List.setIfInBounds_toArray, List.set_cons_zero, List.set_cons_succ, i64_w, i32_w]
                                            rfl
                                          refine pure_ (i := 4) (N := some 85) (v := ?_) (a' := ?_) #[true, true, true, true, true, false, false, false, false, false, false, false, false, false, false, false, false, false, false, false, false, false, false, false, false, false, false, false, false, false, false, false, false, false, false, false, false, false, false, false, false, false, false] rfl rfl (any_of HT_.out (by kernel_rfl)) (fun _ _ _ h => h) (Or.inl ⟨by rfl, ?_⟩) ?_ ?_
                                          rotate_left
                                          · intro w'
                                            go_simp
                                            with_reducible rfl
                                          rotate_left
                                          · simp only [Act.put, List.setIfInBounds_toArray, List.set_cons_zero, List.set_cons_succ, i64_w, i32_w]
                                            rfl
                                          refine pure_ (i := 6) (N := some 87) (v := ?_) (a' := ?_) #[true, true, true, true, true, false, true, false, false, false, false, false, false, false, false, false, false, false, false, false, false, false, false, false, false, false, false, false, false, false, false, false, false, false, false, false, false, false, false, false, false, false, false] rfl rfl (any_of HT_.out (by kernel_rfl)) (fun _ _ _ h => h) (Or.inl ⟨by rfl, ?_⟩) ?_ ?_
                                          rotate_left
                                          · intro w'
                                            go_simp
                                            with_reducible rfl
                                          rotate_left
                                          · simp only [Act.put, List.setIfInBounds_toArray, List.set_cons_zero, List.set_cons_succ, i64_w, i32_w]
                                            rfl
                                          refine pure_ (i := 7) (N := some 88) (v := ?_) (a' := ?_) #[true, true, true, true, true, false, true, true, false, false, false, false, false, false, false, false, false, false, false, false, false, false, false, false, false, false, false, false, false, false, false, false, false, false, false, false, false, false, false, false, false, false, false] rfl rfl (any_of HT_.out (by kernel_rfl)) (fun _ _ _ h => h) (Or.inl ⟨by rfl, ?_⟩) ?_ ?_
                                          rotate_left
                                          · intro w'
                                            go_simp
                                            with_reducible rfl
                                          rotate_left
                                          · simp only [Act.put, List.setIfInBounds_toArray, List.set_cons_zero, List.set_cons_succ, i64_w, i32_w]
                                            rfl
                                          refine pure_ (i := 8) (N := some 89) (v := ?_) (a' := ?_) #[true, true, true, true, true, false, true, true, true, false, false, false, false, false, false, false, false, false, false, false, false, false, false, false, false, false, false, false, false, false, false, false, false, false, false, false, false, false, false, false, false, false, false] rfl rfl (any_of HT_.out (by kernel_rfl)) (fun _ _ _ h => h) (Or.inl ⟨by rfl, ?_⟩) ?_ ?_
                                          rotate_left
                                          · intro w'
                                            go_simp
                                            with_reducible rfl
                                          rotate_left
                                          · simp only [Act.put, List.setIfInBounds_toArray, List.set_cons_zero, List.set_cons_succ, i64_w, i32_w]
                                            rfl
                                          refine pure_ (i := 9) (N := some 90) (v := ?_) (a' := ?_) #[true, true, true, true, true, false, true, true, true, true, false, false, false, false, false, false, false, false, false, false, false, false, false, false, false, false, false, false, false, false, false, false, false, false, false, false, false, false, false, false, false, false, false] rfl rfl (any_of HT_.out (by kernel_rfl)) (fun _ _ _ h => h) (Or.inl ⟨by rfl, ?_⟩) ?_ ?_
                                          rotate_left
                                          · intro w'
                                            go_simp
                                            with_reducible rfl
                                          rotate_left
                                          · simp only [Act.put, List.setIfInBounds_toArray, List.set_cons_zero, List.set_cons_succ, i64_w, i32_w]
                                            rfl
                                          refine pure_ (i := 11) (N := some 92) (v := ?_) (a' := ?_) #[true, true, true, true, true, false, true, true, true, true, false, true, false, false, false, false, false, false, false, false, false, false, false, false, false, false, false, false, false, false, false, false, false, false, false, false, false, false, false, false, false, false, false] rfl rfl (any_of HT_.out (by kernel_rfl)) (fun _ _ _ h => h) (Or.inl ⟨by rfl, ?_⟩) ?_ ?_
                                          rotate_left
                                          · intro w'
                                            go_simp
                                            with_reducible rfl
                                          rotate_left
                                          · simp only [Act.put, List.setIfInBounds_toArray, List.set_cons_zero, List.set_cons_succ, i64_w, i32_w]
                                            rfl
                                          refine take_ (i := 5) (N := some 86) (v := ?_) (a' := ?_) #[true, true, true, true, true, true, true, true, true, true, false, true, false, false, false, false, false, false, false, false, false, false, false, false, false, false, false, false, false, false, false, false, false, false, false, false, false, false, false, false, false, false, false] rfl rfl (take_ofW HT_.out HW_.out (by kernel_rfl)) (fun _ _ _ h => h) (Or.inl ⟨by rfl, ?_⟩) hHeld ?_ ?_
                                          rotate_left
                                          · rintro w' ⟨s0, s1, s2, s3, s4, s5, s6, s7, s8, s9, s10, s11, s12, s13, s14, s15, s16, s17, s18, s19⟩
                                            go_simp
                                            with_reducible rfl
                                          rotate_left
                                          · simp only [Act.put, List.setIfInBounds_toArray, List.set_cons_zero, List.set_cons_succ, i64_w, i32_w]
                                            rfl
                                          refine take_ (i := 10) (N := some 91) (v := ?_) (a' := ?_) #[true, true, true, true, true, true, true, true, true, true, true, true, false, false, false, false, false, false, false, false, false, false, false, false, false, false, false, false, false, false, false, false, false, false, false, false, false, false, false, false, false, false, false] rfl rfl (take_ofW HT_.out HW_.out (by kernel_rfl)) (fun _ _ _ h => h) (Or.inl ⟨by rfl, ?_⟩) hHeld ?_ ?_
                                          rotate_left
                                          · rintro w' ⟨s0, s1, s2, s3, s4, s5, s6, s7, s8, s9, s10, s11, s12, s13, s14, s15, s16, s17, s18, s19⟩
                                            go_simp
                                            with_reducible rfl
                                          rotate_left
                                          · simp only [Act.put, List.setIfInBounds_toArray, List.set_cons_zero, List.set_cons_succ, i64_w, i32_w]
                                            rfl
                                          refine pure_ (i := 12) (N := some 93) (v := ?_) (a' := ?_) #[true, true, true, true, true, true, true, true, true, true, true, true, true, false, false, false, false, false, false, false, false, false, false, false, false, false, false, false, false, false, false, false, false, false, false, false, false, false, false, false, false, false, false] rfl rfl (any_of HT_.out (by kernel_rfl)) (fun _ _ _ h => h) (Or.inl ⟨by rfl, ?_⟩) ?_ ?_
                                          rotate_left
                                          · intro w'
                                            go_simp
                                            with_reducible rfl
                                          rotate_left
                                          · simp only [Act.put, List.setIfInBounds_toArray, List.set_cons_zero, List.set_cons_succ, i64_w, i32_w]
                                            rfl
                                          refine pure_ (i := 13) (N := some 94) (v := ?_) (a' := ?_) #[true, true, true, true, true, true, true, true, true, true, true, true, true, true, false, false, false, false, false, false, false, false, false, false, false, false, false, false, false, false, false, false, false, false, false, false, false, false, false, false, false, false, false] rfl rfl (any_of HT_.out (by kernel_rfl)) (fun _ _ _ h => h) (Or.inl ⟨by rfl, ?_⟩) ?_ ?_
                                          rotate_left
                                          · intro w'
                                            go_simp
                                            with_reducible rfl
                                          rotate_left
                                          · simp only [Act.put, List.setIfInBounds_toArray, List.set_cons_zero, List.set_cons_succ, i64_w, i32_w]
                                            rfl
                                          refine pure_ (i := 14) (N := some 95) (v := ?_) (a' := ?_) #[true, true, true, true, true, true, true, true, true, true, true, true, true, true, true, false, false, false, false, false, false, false, false, false, false, false, false, false, false, false, false, false, false, false, false, false, false, false, false, false, false, false, false] rfl rfl (any_of HT_.out (by kernel_rfl)) (fun _ _ _ h => h) (Or.inl ⟨by rfl, ?_⟩) ?_ ?_
                                          rotate_left
                                          · intro w'
                                            go_simp
                                            with_reducible rfl
                                          rotate_left
                                          · simp only [Act.put, List.setIfInBounds_toArray, List.set_cons_zero, List.set_cons_succ, i64_w, i32_w]
                                            rfl
                                          refine pure_ (i := 15) (N := some 96) (v := ?_) (a' := ?_) #[true, true, true, true, true, true, true, true, true, true, true, true, true, true, true, true, false, false, false, false, false, false, false, false, false, false, false, false, false, false, false, false, false, false, false, false, false, false, false, false, false, false, false] rfl rfl (any_of HT_.out (by kernel_rfl)) (fun _ _ _ h => h) (Or.inl ⟨by rfl, ?_⟩) ?_ ?_
                                          rotate_left
                                          · intro w'
                                            go_simp
                                            with_reducible rfl
                                          rotate_left
                                          · simp only [Act.put, List.setIfInBounds_toArray, List.set_cons_zero, List.set_cons_succ, i64_w, i32_w]
                                            rfl
                                          refine pure_ (i := 16) (N := some 97) (v := ?_) (a' := ?_) #[true, true, true, true, true, true, true, true, true, true, true, true, true, true, true, true, true, false, false, false, false, false, false, false, false, false, false, false, false, false, false, false, false, false, false, false, false, false, false, false, false, false, false] rfl rfl (any_of HT_.out (by kernel_rfl)) (fun _ _ _ h => h) (Or.inl ⟨by rfl, ?_⟩) ?_ ?_
                                          rotate_left
                                          · intro w'
                                            go_simp
                                            with_reducible rfl
                                          rotate_left
                                          · simp only [Act.put, List.setIfInBounds_toArray, List.set_cons_zero, List.set_cons_succ, i64_w, i32_w]
                                            rfl
                                          refine pure_ (i := 17) (N := some 98) (v := ?_) (a' := ?_) #[true, true, true, true, true, true, true, true, true, true, true, true, true, true, true, true, true, true, false, false, false, false, false, false, false, false, false, false, false, false, false, false, false, false, false, false, false, false, false, false, false, false, false] rfl rfl (any_of HT_.out (by kernel_rfl)) (fun _ _ _ h => h) (Or.inl ⟨by rfl, ?_⟩) ?_ ?_
                                          rotate_left
                                          · intro w'
                                            go_simp
                                            with_reducible rfl
                                          rotate_left
                                          · simp only [Act.put, List.setIfInBounds_toArray, List.set_cons_zero, List.set_cons_succ, i64_w, i32_w]
                                            rfl
                                          refine pure_ (i := 18) (N := some 99) (v := ?_) (a' := ?_) #[true, true, true, true, true, true, true, true, true, true, true, true, true, true, true, true, true, true, true, false, false, false, false, false, false, false, false, false, false, false, false, false, false, false, false, false, false, false, false, false, false, false, false] rfl rfl (any_of HT_.out (by kernel_rfl)) (fun _ _ _ h => h) (Or.inl ⟨by rfl, ?_⟩) ?_ ?_
                                          rotate_left
                                          · intro w'
                                            go_simp
                                            with_reducible rfl
                                          rotate_left
                                          · simp only [Act.put, List.setIfInBounds_toArray, List.set_cons_zero, List.set_cons_succ, i64_w, i32_w]
                                            rfl
                                          refine pure_ (i := 19) (N := some 100) (v := ?_) (a' := ?_) #[true, true, true, true, true, true, true, true, true, true, true, true, true, true, true, true, true, true, true, true, false, false, false, false, false, false, false, false, false, false, false, false, false, false, false, false, false, false, false, false, false, false, false] rfl rfl (any_of HT_.out (by kernel_rfl)) (fun _ _ _ h => h) (Or.inl ⟨by rfl, ?_⟩) ?_ ?_
                                          rotate_left
                                          · intro w'
                                            go_simp
                                            with_reducible rfl
                                          rotate_left
                                          · simp only [Act.put, List.setIfInBounds_toArray, List.set_cons_zero, List.set_cons_succ, i64_w, i32_w]
                                            rfl
                                          refine pure_ (i := 21) (N := some 102) (v := ?_) (a' := ?_) #[true, true, true, true, true, true, true, true, true, true, true, true, true, true, true, true, true, true, true, true, false, true, false, false, false, false, false, false, false, false, false, false, false, false, false, false, false, false, false, false, false, false, false] rfl rfl (any_of HT_.out (by kernel_rfl)) (fun _ _ _ h => h) (Or.inl ⟨by rfl, ?_⟩) ?_ ?_
                                          rotate_left
                                          · intro w'
                                            go_simp
                                            with_reducible rfl
                                          rotate_left
                                          · simp only [Act.put, List.setIfInBounds_toArray, List.set_cons_zero, List.set_cons_succ, i64_w, i32_w]
                                            rfl
                                          refine pure_ (i := 22) (N := some 103) (v := ?_) (a' := ?_) #[true, true, true, true, true, true, true, true, true, true, true, true, true, true, true, true, true, true, true, true, false, true, true, false, false, false, false, false, false, false, false, false, false, false, false, false, false, false, false, false, false, false, false] rfl rfl (any_of HT_.out (by kernel_rfl)) (fun _ _ _ h => h) (Or.inl ⟨by rfl, ?_⟩) ?_ ?_
                                          rotate_left
                                          · intro w'
                                            go_simp
                                            with_reducible rfl
                                          rotate_left
                                          · simp only [Act.put, List.setIfInBounds_toArray, List.set_cons_zero, List.set_cons_succ, i64_w, i32_w]
                                            rfl
                                          refine pure_ (i := 23) (N := some 104) (v := ?_) (a' := ?_) #[true, true, true, true, true, true, true, true, true, true, true, true, true, true, true, true, true, true, true, true, false, true, true, true, false, false, false, false, false, false, false, false, false, false, false, false, false, false, false, false, false, false, false] rfl rfl (any_of HT_.out (by kernel_rfl)) (fun _ _ _ h => h) (Or.inl ⟨by rfl, ?_⟩) ?_ ?_
                                          rotate_left
                                          · intro w'
                                            go_simp
                                            with_reducible rfl
                                          rotate_left
                                          · simp only [Act.put, List.setIfInBounds_toArray, List.set_cons_zero, List.set_cons_succ, i64_w, i32_w]
                                            rfl
                                          refine pure_ (i := 24) (N := some 105) (v := ?_) (a' := ?_) #[true, true, true, true, true, true, true, true, true, true, true, true, true, true, true, true, true, true, true, true, false, true, true, true, true, false, false, false, false, false, false, false, false, false, false, false, false, false, false, false, false, false, false] rfl rfl (any_of HT_.out (by kernel_rfl)) (fun _ _ _ h => h) (Or.inl ⟨by rfl, ?_⟩) ?_ ?_
                                          rotate_left
                                          · intro w'
                                            go_simp
                                            with_reducible rfl
                                          rotate_left
                                          · simp only [Act.put, List.setIfInBounds_toArray, List.set_cons_zero, List.set_cons_succ, i64_w, i32_w]
                                            rfl
                                          refine take_ (i := 20) (N := some 101) (v := ?_) (a' := ?_) #[true, true, true, true, true, true, true, true, true, true, true, true, true, true, true, true, true, true, true, true, true, true, true, true, true, false, false, false, false, false, false, false, false, false, false, false, false, false, false, false, false, false, false] rfl rfl (take_ofW HT_.out HW_.out (by kernel_rfl)) (fun _ _ _ h => h) (Or.inl ⟨by rfl, ?_⟩) hHeld ?_ ?_
                                          rotate_left
                                          · rintro w' ⟨s0, s1, s2, s3, s4, s5, s6, s7, s8, s9, s10, s11, s12, s13, s14, s15, s16, s17, s18, s19⟩
                                            go_simp
                                            with_reducible rfl
                                          rotate_left
                                          · simp only [Act.put, List.setIfInBounds_toArray, List.set_cons_zero, List.set_cons_succ, i64_w, i32_w]
                                            rfl
                                          refine take_ (i := 25) (N := some 106) (v := ?_) (a' := ?_) #[true, true, true, true, true, true, true, true, true, true, true, true, true, true, true, true, true, true, true, true, true, true, true, true, true, true, false, false, false, false, false, false, false, false, false, false, false, false, false, false, false, false, false] rfl rfl (take_ofW HT_.out HW_.out (by kernel_rfl)) (fun _ _ _ h => h) (Or.inl ⟨by rfl, ?_⟩) hHeld ?_ ?_
                                          rotate_left
                                          · rintro w' ⟨s0, s1, s2, s3, s4, s5, s6, s7, s8, s9, s10, s11, s12, s13, s14, s15, s16, s17, s18, s19⟩
                                            go_simp
                                            with_reducible rfl
                                          rotate_left
                                          · simp only [Act.put, List.setIfInBounds_toArray, List.set_cons_zero, List.set_cons_succ, i64_w, i32_w]
                                            rfl
                                          refine pure_ (i := 26) (N := some 107) (v := ?_) (a' := ?_) #[true, true, true, true, true, true, true, true, true, true, true, true, true, true, true, true, true, true, true, true, true, true, true, true, true, true, true, false, false, false, false, false, false, false, false, false, false, false, false, false, false, false, false] rfl rfl (any_of HT_.out (by kernel_rfl)) (fun _ _ _ h => h) (Or.inl ⟨by rfl, ?_⟩) ?_ ?_
                                          rotate_left
                                          · intro w'
                                            go_simp
                                            with_reducible rfl
                                          rotate_left
                                          · simp only [Act.put, List.setIfInBounds_toArray, List.set_cons_zero, List.set_cons_succ, i64_w, i32_w]
                                            rfl
                                          refine pure_ (i := 27) (N := some 108) (v := ?_) (a' := ?_) #[true, true, true, true, true, true, true, true, true, true, true, true, true, true, true, true, true, true, true, true, true, true, true, true, true, true, true, true, false, false, false, false, false, false, false, false, false, false, false, false, false, false, false] rfl rfl (any_of HT_.out (by kernel_rfl)) (fun _ _ _ h => h) (Or.inl ⟨by rfl, ?_⟩) ?_ ?_
                                          rotate_left
                                          · intro w'
                                            go_simp
                                            with_reducible rfl
                                          rotate_left
                                          · simp only [Act.put, List.setIfInBounds_toArray, List.set_cons_zero, List.set_cons_succ, i64_w, i32_w]
                                            rfl
                                          refine pure_ (i := 28) (N := some 109) (v := ?_) (a' := ?_) #[true, true, true, true, true, true, true, true, true, true, true, true, true, true, true, true, true, true, true, true, true, true, true, true, true, true, true, true, true, false, false, false, false, false, false, false, false, false, false, false, false, false, false] rfl rfl (any_of HT_.out (by kernel_rfl)) (fun _ _ _ h => h) (Or.inl ⟨by rfl, ?_⟩) ?_ ?_
                                          rotate_left
                                          · intro w'
                                            go_simp
                                            with_reducible rfl
                                          rotate_left
                                          · simp only [Act.put, List.setIfInBounds_toArray, List.set_cons_zero, List.set_cons_succ, i64_w, i32_w]
                                            rfl
                                          refine pure_ (i := 29) (N := some 110) (v := undef) (a' := ?_) #[true, true, true, true, true, true, true, true, true, true, true, true, true, true, true, true, true, true, true, true, true, true, true, true, true, true, true, true, true, true, false, false, false, false, false, false, false, false, false, false, false, false, false] rfl rfl (any_of HT_.out (by kernel_rfl)) (fun _ _ _ h => h) (Or.inr ⟨by rfl, rfl⟩) ?_ ?_
                                          rotate_left
                                          · simp only [Act.put, List.setIfInBounds_toArray, List.set_cons_zero, List.set_cons_succ, i64_w, i32_w]
                                            rfl
                                          refine pure_ (i := 30) (N := some 111) (v := undef) (a' := ?_) #[true, true, true, true, true, true, true, true, true, true, true, true, true, true, true, true, true, true, true, true, true, true, true, true, true, true, true, true, true, true, true, false, false, false, false, false, false, false, false, false, false, false, false] rfl rfl (any_of HT_.out (by kernel_rfl)) (fun _ _ _ h => h) (Or.inr ⟨by rfl, rfl⟩) ?_ ?_
                                          rotate_left
                                          · simp only [Act.put, List.setIfInBounds_toArray, List.set_cons_zero, List.set_cons_succ, i64_w, i32_w]
                                            rfl
                                          refine pure_ (i := 31) (N := some 112) (v := undef) (a' := ?_) #[true, true, true, true, true, true, true, true, true, true, true, true, true, true, true, true, true, true, true, true, true, true, true, true, true, true, true, true, true, true, true, true, false, false, false, false, false, false, false, false, false, false, false] rfl rfl (any_of HT_.out (by kernel_rfl)) (fun _ _ _ h => h) (Or.inr ⟨by rfl, rfl⟩) ?_ ?_
                                          rotate_left
                                          · simp only [Act.put, List.setIfInBounds_toArray, List.set_cons_zero, List.set_cons_succ, i64_w, i32_w]
                                            rfl
                                          refine pure_ (i := 32) (N := some 113) (v := undef) (a' := ?_) #[true, true, true, true, true, true, true, true, true, true, true, true, true, true, true, true, true, true, true, true, true, true, true, true, true, true, true, true, true, true, true, true, true, false, false, false, false, false, false, false, false, false, false] rfl rfl (any_of HT_.out (by kernel_rfl)) (fun _ _ _ h => h) (Or.inr ⟨by rfl, rfl⟩) ?_ ?_
                                          rotate_left
                                          · simp only [Act.put, List.setIfInBounds_toArray, List.set_cons_zero, List.set_cons_succ, i64_w, i32_w]
                                            rfl
                                          refine pure_ (i := 33) (N := some 114) (v := undef) (a' := ?_) #[true, true, true, true, true, true, true, true, true, true, true, true, true, true, true, true, true, true, true, true, true, true, true, true, true, true, true, true, true, true, true, true, true, true, false, false, false, false, false, false, false, false, false] rfl rfl (any_of HT_.out (by kernel_rfl)) (fun _ _ _ h => h) (Or.inr ⟨by rfl, rfl⟩) ?_ ?_
                                          rotate_left
                                          · simp only [Act.put, List.setIfInBounds_toArray, List.set_cons_zero, List.set_cons_succ, i64_w, i32_w]
                                            rfl
                                          refine pure_ (i := 34) (N := some 115) (v := undef) (a' := ?_) #[true, true, true, true, true, true, true, true, true, true, true, true, true, true, true, true, true, true, true, true, true, true, true, true, true, true, true, true, true, true, true, true, true, true, true, false, false, false, false, false, false, false, false] rfl rfl (any_of HT_.out (by kernel_rfl)) (fun _ _ _ h => h) (Or.inr ⟨by rfl, rfl⟩) ?_ ?_
                                          rotate_left
                                          · simp only [Act.put, List.setIfInBounds_toArray, List.set_cons_zero, List.set_cons_succ, i64_w, i32_w]
                                            rfl
                                          refine pure_ (i := 35) (N := some 116) (v := undef) (a' := ?_) #[true, true, true, true, true, true, true, true, true, true, true, true, true, true, true, true, true, true, true, true, true, true, true, true, true, true, true, true, true, true, true, true, true, true, true, true, false, false, false, false, false, false, false] rfl rfl (any_of HT_.out (by kernel_rfl)) (fun _ _ _ h => h) (Or.inr ⟨by rfl, rfl⟩) ?_ ?_
                                          rotate_left
                                          · simp only [Act.put, List.setIfInBounds_toArray, List.set_cons_zero, List.set_cons_succ, i64_w, i32_w]
                                            rfl
                                          refine pure_ (i := 36) (N := some 117) (v := undef) (a' := ?_) #[true, true, true, true, true, true, true, true, true, true, true, true, true, true, true, true, true, true, true, true, true, true, true, true, true, true, true, true, true, true, true, true, true, true, true, true, true, false, false, false, false, false, false] rfl rfl (any_of HT_.out (by kernel_rfl)) (fun _ _ _ h => h) (Or.inr ⟨by rfl, rfl⟩) ?_ ?_
                                          rotate_left
                                          · simp only [Act.put, List.setIfInBounds_toArray, List.set_cons_zero, List.set_cons_succ, i64_w, i32_w]
                                            rfl
                                          refine pure_ (i := 37) (N := some 118) (v := undef) (a' := ?_) #[true, true, true, true, true, true, true, true, true, true, true, true, true, true, true, true, true, true, true, true, true, true, true, true, true, true, true, true, true, true, true, true, true, true, true, true, true, true, false, false, false, false, false] rfl rfl (any_of HT_.out (by kernel_rfl)) (fun _ _ _ h => h) (Or.inr ⟨by rfl, rfl⟩) ?_ ?_
                                          rotate_left
                                          · simp only [Act.put, List.setIfInBounds_toArray, List.set_cons_zero, List.set_cons_succ, i64_w, i32_w]
                                            rfl
                                          refine pure_ (i := 38) (N := some 119) (v := undef) (a' := ?_) #[true, true, true, true, true, true, true, true, true, true, true, true, true, true, true, true, true, true, true, true, true, true, true, true, true, true, true, true, true, true, true, true, true, true, true, true, true, true, true, false, false, false, false] rfl rfl (any_of HT_.out (by kernel_rfl)) (fun _ _ _ h => h) (Or.inr ⟨by rfl, rfl⟩) ?_ ?_
                                          rotate_left
                                          · simp only [Act.put, List.setIfInBounds_toArray, List.set_cons_zero, List.set_cons_succ, i64_w, i32_w]
                                            rfl
                                          refine pure_ (i := 39) (N := some 120) (v := undef) (a' := ?_) #[true, true, true, true, true, true, true, true, true, true, true, true, true, true, true, true, true, true, true, true, true, true, true, true, true, true, true, true, true, true, true, true, true, true, true, true, true, true, true, true, false, false, false] rfl rfl (any_of HT_.out (by kernel_rfl)) (fun _ _ _ h => h) (Or.inr ⟨by rfl, rfl⟩) ?_ ?_
                                          rotate_left
                                          · simp only [Act.put, List.setIfInBounds_toArray, List.set_cons_zero, List.set_cons_succ, i64_w, i32_w]
                                            rfl
                                          refine pure_ (i := 40) (N := some 121) (v := undef) (a' := ?_) #[true, true, true, true, true, true, true, true, true, true, true, true, true, true, true, true, true, true, true, true, true, true, true, true, true, true, true, true, true, true, true, true, true, true, true, true, true, true, true, true, true, false, false] rfl rfl (any_of HT_.out (by kernel_rfl)) (fun _ _ _ h => h) (Or.inr ⟨by rfl, rfl⟩) ?_ ?_
                                          rotate_left
                                          · simp only [Act.put, List.setIfInBounds_toArray, List.set_cons_zero, List.set_cons_succ, i64_w, i32_w]
                                            rfl
                                          refine pure_ (i := 41) (N := some 122) (v := undef) (a' := ?_) #[true, true, true, true, true, true, true, true, true, true, true, true, true, true, true, true, true, true, true, true, true, true, true, true, true, true, true, true, true, true, true, true, true, true, true, true, true, true, true, true, true, true, false] rfl rfl (any_of HT_.out (by kernel_rfl)) (fun _ _ _ h => h) (Or.inr ⟨by rfl, rfl⟩) ?_ ?_
                                          rotate_left
                                          · simp only [Act.put, List.setIfInBounds_toArray, List.set_cons_zero, List.set_cons_succ, i64_w, i32_w]
                                            rfl
                                          refine pure_ (i := 42) (N := some 123) (v := ?_) (a' := ?_) #[true, true, true, true, true, true, true, true, true, true, true, true, true, true, true, true, true, true, true, true, true, true, true, true, true, true, true, true, true, true, true, true, true, true, true, true, true, true, true, true, true, true, true] rfl rfl (any_of HT_.out (by kernel_rfl)) (fun _ _ _ h => h) (Or.inl ⟨by rfl, ?_⟩) ?_ ?_
                                          rotate_left
                                          · intro w'
                                            go_simp
                                            with_reducible rfl
                                          rotate_left
                                          · simp only [Act.put, List.setIfInBounds_toArray, List.set_cons_zero, List.set_cons_succ, i64_w, i32_w]
                                            rfl
                                          refine done_ (done_of HT_.out (by kernel_rfl)) ?_
                                          try go_wp2
                                          go_ret
                                          exact ⟨by first | rfl | (simp [errW_none, errW_some] <;> rfl) | (simp only [← hji43]; first | rfl | (simp [errW_none, errW_some] <;> rfl)) | (simp [*, errW_none, errW_some] <;> rfl), by repeat (first | (with_reducible first | exact HB.out | apply below_alloc | apply pw_below_drewN | apply below_drew1) | exact HB.out)⟩
                                      · rw [if_neg c48] at H
                                        have c48b0 : (((rd_T34 t338 (ji43)).f0) == (wrap64 (((rd_T34 t335 x78_4).f0) + a1))) = false := beq_eq_false_iff_ne.mpr c48
                                        have c48b1 : (((rd_T34 t338 (ji43)).f0) != (wrap64 (((rd_T34 t335 x78_4).f0) + a1))) = true := bne_iff_ne.mpr c48
                                        obtain rfl := Option.some.inj H
                                        try go_wp2
                                        have n0_ := Aside0.mk (Kd.N_drew HO_10.out)
                                        have n1_ := Aside0.mk (Kd.N_drew HO_11.out)
                                        have n2_ := Aside0.mk (below_drew1 HB.out)
                                        clear HO_10
                                        clear HO_11
                                        clear HB
                                        have HO_10 := n0_
                                        have HO_11 := n1_
                                        have HB := n2_
                                        clear n0_ n1_ n2_
                                        obtain ⟨Ao59, co59, eo59⟩ := Kd.N_slice HO_11.out
                                        (first | subst eo59 | (injection eo59 with f1_ f2_ f3_; have f4_ := f1_.symm; have f5_ := f3_.symm; clear f1_ f2_ f3_; subst f4_; subst f5_))
                                        have p341 : 0 ≤ ((ji43) : Int) := of_decide_eq_true (by first | (with_reducible assumption) | assumption)
                                        have q341 : (ji43) < (t338.length : Int) := of_decide_eq_true (by first | (with_reducible assumption) | assumption)
                                        obtain ⟨ad341, A341_4, c341_4, e341, hx341_0, hx341_1, hx341_2, hx341_3, hx341_4, hl341_4, hi341_4⟩ := at_T34 (Kd.N_reads' HO_11.out).2.2 (ji43) p341 q341
                                        cases e341
                                        obtain ⟨ce341, hce341, hMe341, hcc341⟩ := Kd.N_get HO_11.out z34 (ji43) p341 (by first | exact q341 | exact of_decide_eq_true (by first | (with_reducible assumption) | assumption) | (have e_ := (Kd.N_reads' HO_11.out).1; omega))
                                        obtain ⟨ua341_4, uc341_4, rfl, ul341_4, ge341_4⟩ := k34_openF hMe341
                                        have hv341_4 := hcc341 4 _ rfl
                                        rw [add_field _ _ 4 (by omega)] at hv341_4
                                        replace hv341_4 := Option.some.inj (hv341_4.symm.trans hx341_4)
                                        injection hv341_4 with hva_ hvn_ hvc_
                                        rw [hva_] at ge341_4
                                        rw [hvc_] at ul341_4
                                        have HL341_4 := Aside0.mk (show Kd.V Kd.bool 4 _ w.heap.size _ _ ((rd_T34 t338 (ji43)).f4) from Kd.V_mk ul341_4 ge341_4)
                                        clear hva_ hvn_ hvc_ ge341_4 ul341_4
                                        clear hcc341 hce341
                                        have HR341_4 := Aside0.mk hi341_4
                                        have HC341_4 := Aside0.mk hl341_4
                                        clear hi341_4 hl341_4
                                        replace p341 := eq_true p341
                                        replace q341 := eq_true q341
                                        have p342 : 0 ≤ (x78_4 : Int) := of_decide_eq_true (by first | (with_reducible assumption) | assumption)
                                        have q342 : x78_4 < (t335.length : Int) := of_decide_eq_true (by first | (with_reducible assumption) | assumption)
                                        obtain ⟨ad342, A342_4, c342_4, e342, hx342_0, hx342_1, hx342_2, hx342_3, hx342_4, hl342_4, hi342_4⟩ := at_T34 (Kd.N_reads' HO_10.out).2.2 x78_4 p342 q342
                                        cases e342
                                        obtain ⟨ce342, hce342, hMe342, hcc342⟩ := Kd.N_get HO_10.out z34 x78_4 p342 (by first | exact q342 | exact of_decide_eq_true (by first | (with_reducible assumption) | assumption) | (have e_ := (Kd.N_reads' HO_10.out).1; omega))
                                        obtain ⟨ua342_4, uc342_4, rfl, ul342_4, ge342_4⟩ := k34_openF hMe342
                                        have hv342_4 := hcc342 4 _ rfl
                                        rw [add_field _ _ 4 (by omega)] at hv342_4
                                        replace hv342_4 := Option.some.inj (hv342_4.symm.trans hx342_4)
                                        injection hv342_4 with hva_ hvn_ hvc_
                                        rw [hva_] at ge342_4
                                        rw [hvc_] at ul342_4
                                        have HL342_4 := Aside0.mk (show Kd.V Kd.bool 4 _ w.heap.size _ _ ((rd_T34 t335 x78_4).f4) from Kd.V_mk ul342_4 ge342_4)
                                        clear hva_ hvn_ hvc_ ge342_4 ul342_4
                                        clear hcc342 hce342
                                        have HR342_4 := Aside0.mk hi342_4
                                        have HC342_4 := Aside0.mk hl342_4
                                        clear hi342_4 hl342_4
                                        replace p342 := eq_true p342
                                        replace q342 := eq_true q342
                                        refine start_ (n := 43) (S := fun w' => w'.cell? (ad341.add (((ji43)).toNat * 5)) = some (.int .i64 ((rd_T34 t338 (ji43)).f0)) ∧ w'.cell? ⟨(ad341.add (((ji43)).toNat * 5)).block, (ad341.add (((ji43)).toNat * 5)).off + 1, none⟩ = some (.int .i64 ((rd_T34 t338 (ji43)).f1)) ∧ w'.cell? ⟨(ad341.add (((ji43)).toNat * 5)).block, (ad341.add (((ji43)).toNat * 5)).off + 2, none⟩ = some (.int .i64 ((rd_T34 t338 (ji43)).f2)) ∧ w'.cell? ⟨(ad341.add (((ji43)).toNat * 5)).block, (ad341.add (((ji43)).toNat * 5)).off + 3, none⟩ = some (.int .i64 ((rd_T34 t338 (ji43)).f3)) ∧ w'.cell? ⟨(ad341.add (((ji43)).toNat * 5)).block, (ad341.add (((ji43)).toNat * 5)).off + 4, none⟩ = some (.slice A341_4 ((rd_T34 t338 (ji43)).f4).length c341_4) ∧ w'.cell? (ad342.add ((x78_4).toNat * 5)) = some (.int .i64 ((rd_T34 t335 x78_4).f0)) ∧ w'.cell? ⟨(ad342.add ((x78_4).toNat * 5)).block, (ad342.add ((x78_4).toNat * 5)).off + 1, none⟩ = some (.int .i64 ((rd_T34 t335 x78_4).f1)) ∧ w'.cell? ⟨(ad342.add ((x78_4).toNat * 5)).block, (ad342.add ((x78_4).toNat * 5)).off + 2, none⟩ = some (.int .i64 ((rd_T34 t335 x78_4).f2)) ∧ w'.cell? ⟨(ad342.add ((x78_4).toNat * 5)).block, (ad342.add ((x78_4).toNat * 5)).off + 3, none⟩ = some (.int .i64 ((rd_T34 t335 x78_4).f3)) ∧ w'.cell? ⟨(ad342.add ((x78_4).toNat * 5)).block, (ad342.add ((x78_4).toNat * 5)).off + 4, none⟩ = some (.slice A342_4 ((rd_T34 t335 x78_4).f4).length c342_4)) (ds := []) #[false, false, false, false, false, false, false, false, false, false, false, false, false, false, false, false, false, false, false, false, false, false, false, false, false, false, false, false, false, false, false, false, false, false, false, false, false, false, false, false, false, false, false] (by kernel_rfl) rfl rfl ⟨hx341_0, hx341_1, hx341_2, hx341_3, hx341_4, hx342_0, hx342_1, hx342_2, hx342_3, hx342_4⟩ (fun hHeld => ?_); refine with_tabW laws_FnMarkSet.tab16 laws_FnMarkSet.bits16 (fun HT_ HW_ => ?_)
                                        generalize wr.drew = w58 at HO_10 HO_11 HB HL341_4 HL342_4 HR341_4 HR342_4 hx341_0 hx341_1 hx341_2 hx341_3 hx341_4 hx342_0 hx342_1 hx342_2 hx342_3 hx342_4 hHeld ⊢
                                        refine pure_ (i := 0) (N := some 81) (v := ?_) (a' := ?_) #[true, false, false, false, false, false, false, false, false, false, false, false, false, false, false, false, false, false, false, false, false, false, false, false, false, false, false, false, false, false, false, false, false, false, false, false, false, false, false, false, false, false, false] rfl rfl (any_of HT_.out (by kernel_rfl)) (fun _ _ _ h => h) (Or.inl ⟨by rfl, ?_⟩) ?_ ?_
                                        rotate_left
                                        · intro w'
                                          go_simp
                                          with_reducible rfl
                                        rotate_left
                                        · simp only [Act.put, List.setIfInBounds_toArray, List.set_cons_zero, List.set_cons_succ, i64_w, i32_w]
                                          rfl
                                        refine pure_ (i := 1) (N := some 82) (v := ?_) (a' := ?_) #[true, true, false, false, false, false, false, false, false, false, false, false, false, false, false, false, false, false, false, false, false, false, false, false, false, false, false, false, false, false, false, false, false, false, false, false, false, false, false, false, false, false, false] rfl rfl (any_of HT_.out (by kernel_rfl)) (fun _ _ _ h => h) (Or.inl ⟨by rfl, ?_⟩) ?_ ?_
                                        rotate_left
                                        · intro w'
                                          go_simp
                                          with_reducible rfl
                                        rotate_left
                                        · simp only [Act.put, List.setIfInBounds_toArray, List.set_cons_zero, List.set_cons_succ, i64_w, i32_w]
                                          rfl
                                        refine pure_ (i := 2) (N := some 83) (v := ?_) (a' := ?_) #[true, true, true, false, false, false, false, false, false, false, false, false, false, false, false, false, false, false, false, false, false, false, false, false, false, false, false, false, false, false, false, false, false, false, false, false, false, false, false, false, false, false, false] rfl rfl (any_of HT_.out (by kernel_rfl)) (fun _ _ _ h => h) (Or.inl ⟨by rfl, ?_⟩) ?_ ?_
                                        rotate_left
                                        · intro w'
                                          go_simp
                                          with_reducible rfl
                                        rotate_left
                                        · simp only [Act.put, List.setIfInBounds_toArray, List.set_cons_zero, List.set_cons_succ, i64_w, i32_w]
                                          rfl
                                        refine pure_ (i := 3) (N := some 84) (v := ?_) (a' := ?_) #[true, true, true, true, false, false, false, false, false, false, false, false, false, false, false, false, false, false, false, false, false, false, false, false, false, false, false, false, false, false, false, false, false, false, false, false, false, false, false, false, false, false, false] rfl rfl (any_of HT_.out (by kernel_rfl)) (fun _ _ _ h => h) (Or.inl ⟨by rfl, ?_⟩) ?_ ?_
                                        rotate_left
                                        · intro w'
                                          go_simp
                                          with_reducible rfl
                                        rotate_left
                                        · simp only [Act.put, List.setIfInBounds_toArray, List.set_cons_zero, List.set_cons_succ, i64_w, i32_w]
                                          rfl
                                        refine pure_ (i := 4) (N := some 85) (v := ?_) (a' := ?_) #[true, true, true, true, true, false, false, false, false, false, false, false, false, false, false, false, false, false, false, false, false, false, false, false, false, false, false, false, false, false, false, false, false, false, false, false, false, false, false, false, false, false, false] rfl rfl (any_of HT_.out (by kernel_rfl)) (fun _ _ _ h => h) (Or.inl ⟨by rfl, ?_⟩) ?_ ?_
                                        rotate_left
                                        · intro w'
                                          go_simp
                                          with_reducible rfl
                                        rotate_left
                                        · simp only [Act.put, List.setIfInBounds_toArray, List.set_cons_zero, List.set_cons_succ, i64_w, i32_w]
                                          rfl
                                        refine pure_ (i := 6) (N := some 87) (v := ?_) (a' := ?_) #[true, true, true, true, true, false, true, false, false, false, false, false, false, false, false, false, false, false, false, false, false, false, false, false, false, false, false, false, false, false, false, false, false, false, false, false, false, false, false, false, false, false, false] rfl rfl (any_of HT_.out (by kernel_rfl)) (fun _ _ _ h => h) (Or.inl ⟨by rfl, ?_⟩) ?_ ?_
                                        rotate_left
                                        · intro w'
                                          go_simp
                                          with_reducible rfl
                                        rotate_left
                                        · simp only [Act.put, List.setIfInBounds_toArray, List.set_cons_zero, List.set_cons_succ, i64_w, i32_w]
                                          rfl
                                        refine pure_ (i := 7) (N := some 88) (v := ?_) (a' := ?_) #[true, true, true, true, true, false, true, true, false, false, false, false, false, false, false, false, false, false, false, false, false, false, false, false, false, false, false, false, false, false, false, false, false, false, false, false, false, false, false, false, false, false, false] rfl rfl (any_of HT_.out (by kernel_rfl)) (fun _ _ _ h => h) (Or.inl ⟨by rfl, ?_⟩) ?_ ?_
                                        rotate_left
                                        · intro w'
                                          go_simp
                                          with_reducible rfl
                                        rotate_left
                                        · simp only [Act.put, List.setIfInBounds_toArray, List.set_cons_zero, List.set_cons_succ, i64_w, i32_w]
                                          rfl
                                        refine pure_ (i := 8) (N := some 89) (v := ?_) (a' := ?_) #[true, true, true, true, true, false, true, true, true, false, false, false, false, false, false, false, false, false, false, false, false, false, false, false, false, false, false, false, false, false, false, false, false, false, false, false, false, false, false, false, false, false, false] rfl rfl (any_of HT_.out (by kernel_rfl)) (fun _ _ _ h => h) (Or.inl ⟨by rfl, ?_⟩) ?_ ?_
                                        rotate_left
                                        · intro w'
                                          go_simp
                                          with_reducible rfl
                                        rotate_left
                                        · simp only [Act.put, List.setIfInBounds_toArray, List.set_cons_zero, List.set_cons_succ, i64_w, i32_w]
                                          rfl
                                        refine pure_ (i := 9) (N := some 90) (v := ?_) (a' := ?_) #[true, true, true, true, true, false, true, true, true, true, false, false, false, false, false, false, false, false, false, false, false, false, false, false, false, false, false, false, false, false, false, false, false, false, false, false, false, false, false, false, false, false, false] rfl rfl (any_of HT_.out (by kernel_rfl)) (fun _ _ _ h => h) (Or.inl ⟨by rfl, ?_⟩) ?_ ?_
                                        rotate_left
                                        · intro w'
                                          go_simp
                                          with_reducible rfl
                                        rotate_left
                                        · simp only [Act.put, List.setIfInBounds_toArray, List.set_cons_zero, List.set_cons_succ, i64_w, i32_w]
                                          rfl
                                        refine pure_ (i := 11) (N := some 92) (v := ?_) (a' := ?_) #[true, true, true, true, true, false, true, true, true, true, false, true, false, false, false, false, false, false, false, false, false, false, false, false, false, false, false, false, false, false, false, false, false, false, false, false, false, false, false, false, false, false, false] rfl rfl (any_of HT_.out (by kernel_rfl)) (fun _ _ _ h => h) (Or.inl ⟨by rfl, ?_⟩) ?_ ?_
                                        rotate_left
                                        · intro w'
                                          go_simp
                                          with_reducible rfl
                                        rotate_left
                                        · simp only [Act.put, List.setIfInBounds_toArray, List.set_cons_zero, List.set_cons_succ, i64_w, i32_w]
                                          rfl
                                        refine take_ (i := 5) (N := some 86) (v := ?_) (a' := ?_) #[true, true, true, true, true, true, true, true, true, true, false, true, false, false, false, false, false, false, false, false, false, false, false, false, false, false, false, false, false, false, false, false, false, false, false, false, false, false, false, false, false, false, false] rfl rfl (take_ofW HT_.out HW_.out (by kernel_rfl)) (fun _ _ _ h => h) (Or.inl ⟨by rfl, ?_⟩) hHeld ?_ ?_
                                        rotate_left
                                        · rintro w' ⟨s0, s1, s2, s3, s4, s5, s6, s7, s8, s9⟩
                                          go_simp
                                          with_reducible rfl
                                        rotate_left
                                        · simp only [Act.put, List.setIfInBounds_toArray, List.set_cons_zero, List.set_cons_succ, i64_w, i32_w]
                                          rfl
                                        refine take_ (i := 10) (N := some 91) (v := ?_) (a' := ?_) #[true, true, true, true, true, true, true, true, true, true, true, true, false, false, false, false, false, false, false, false, false, false, false, false, false, false, false, false, false, false, false, false, false, false, false, false, false, false, false, false, false, false, false] rfl rfl (take_ofW HT_.out HW_.out (by kernel_rfl)) (fun _ _ _ h => h) (Or.inl ⟨by rfl, ?_⟩) hHeld ?_ ?_
                                        rotate_left
                                        · rintro w' ⟨s0, s1, s2, s3, s4, s5, s6, s7, s8, s9⟩
                                          go_simp
                                          with_reducible rfl
                                        rotate_left
                                        · simp only [Act.put, List.setIfInBounds_toArray, List.set_cons_zero, List.set_cons_succ, i64_w, i32_w]
                                          rfl
                                        refine pure_ (i := 12) (N := some 93) (v := ?_) (a' := ?_) #[true, true, true, true, true, true, true, true, true, true, true, true, true, false, false, false, false, false, false, false, false, false, false, false, false, false, false, false, false, false, false, false, false, false, false, false, false, false, false, false, false, false, false] rfl rfl (any_of HT_.out (by kernel_rfl)) (fun _ _ _ h => h) (Or.inl ⟨by rfl, ?_⟩) ?_ ?_
                                        rotate_left
                                        · intro w'
                                          go_simp
                                          with_reducible rfl
                                        rotate_left
                                        · simp only [Act.put, List.setIfInBounds_toArray, List.set_cons_zero, List.set_cons_succ, i64_w, i32_w]
                                          rfl
                                        refine pure_ (i := 13) (N := some 94) (v := ?_) (a' := ?_) #[true, true, true, true, true, true, true, true, true, true, true, true, true, true, false, false, false, false, false, false, false, false, false, false, false, false, false, false, false, false, false, false, false, false, false, false, false, false, false, false, false, false, false] rfl rfl (any_of HT_.out (by kernel_rfl)) (fun _ _ _ h => h) (Or.inl ⟨by rfl, ?_⟩) ?_ ?_
                                        rotate_left
                                        · intro w'
                                          go_simp
                                          with_reducible rfl
                                        rotate_left
                                        · simp only [Act.put, List.setIfInBounds_toArray, List.set_cons_zero, List.set_cons_succ, i64_w, i32_w]
                                          rfl
                                        refine pure_ (i := 14) (N := some 95) (v := ?_) (a' := ?_) #[true, true, true, true, true, true, true, true, true, true, true, true, true, true, true, false, false, false, false, false, false, false, false, false, false, false, false, false, false, false, false, false, false, false, false, false, false, false, false, false, false, false, false] rfl rfl (any_of HT_.out (by kernel_rfl)) (fun _ _ _ h => h) (Or.inl ⟨by rfl, ?_⟩) ?_ ?_
                                        rotate_left
                                        · intro w'
                                          go_simp
                                          with_reducible rfl
                                        rotate_left
                                        · simp only [Act.put, List.setIfInBounds_toArray, List.set_cons_zero, List.set_cons_succ, i64_w, i32_w]
                                          rfl
                                        refine pure_ (i := 15) (N := some 96) (v := undef) (a' := ?_) #[true, true, true, true, true, true, true, true, true, true, true, true, true, true, true, true, false, false, false, false, false, false, false, false, false, false, false, false, false, false, false, false, false, false, false, false, false, false, false, false, false, false, false] rfl rfl (any_of HT_.out (by kernel_rfl)) (fun _ _ _ h => h) (Or.inr ⟨by rfl, rfl⟩) ?_ ?_
                                        rotate_left
                                        · simp only [Act.put, List.setIfInBounds_toArray, List.set_cons_zero, List.set_cons_succ, i64_w, i32_w]
                                          rfl
                                        refine pure_ (i := 16) (N := some 97) (v := undef) (a' := ?_) #[true, true, true, true, true, true, true, true, true, true, true, true, true, true, true, true, true, false, false, false, false, false, false, false, false, false, false, false, false, false, false, false, false, false, false, false, false, false, false, false, false, false, false] rfl rfl (any_of HT_.out (by kernel_rfl)) (fun _ _ _ h => h) (Or.inr ⟨by rfl, rfl⟩) ?_ ?_
                                        rotate_left
                                        · simp only [Act.put, List.setIfInBounds_toArray, List.set_cons_zero, List.set_cons_succ, i64_w, i32_w]
                                          rfl
                                        refine pure_ (i := 17) (N := some 98) (v := undef) (a' := ?_) #[true, true, true, true, true, true, true, true, true, true, true, true, true, true, true, true, true, true, false, false, false, false, false, false, false, false, false, false, false, false, false, false, false, false, false, false, false, false, false, false, false, false, false] rfl rfl (any_of HT_.out (by kernel_rfl)) (fun _ _ _ h => h) (Or.inr ⟨by rfl, rfl⟩) ?_ ?_
                                        rotate_left
                                        · simp only [Act.put, List.setIfInBounds_toArray, List.set_cons_zero, List.set_cons_succ, i64_w, i32_w]
                                          rfl
                                        refine pure_ (i := 18) (N := some 99) (v := undef) (a' := ?_) #[true, true, true, true, true, true, true, true, true, true, true, true, true, true, true, true, true, true, true, false, false, false, false, false, false, false, false, false, false, false, false, false, false, false, false, false, false, false, false, false, false, false, false] rfl rfl (any_of HT_.out (by kernel_rfl)) (fun _ _ _ h => h) (Or.inr ⟨by rfl, rfl⟩) ?_ ?_
                                        rotate_left
                                        · simp only [Act.put, List.setIfInBounds_toArray, List.set_cons_zero, List.set_cons_succ, i64_w, i32_w]
                                          rfl
                                        refine pure_ (i := 19) (N := some 100) (v := undef) (a' := ?_) #[true, true, true, true, true, true, true, true, true, true, true, true, true, true, true, true, true, true, true, true, false, false, false, false, false, false, false, false, false, false, false, false, false, false, false, false, false, false, false, false, false, false, false] rfl rfl (any_of HT_.out (by kernel_rfl)) (fun _ _ _ h => h) (Or.inr ⟨by rfl, rfl⟩) ?_ ?_
                                        rotate_left
                                        · simp only [Act.put, List.setIfInBounds_toArray, List.set_cons_zero, List.set_cons_succ, i64_w, i32_w]
                                          rfl
                                        refine pure_ (i := 20) (N := some 101) (v := undef) (a' := ?_) #[true, true, true, true, true, true, true, true, true, true, true, true, true, true, true, true, true, true, true, true, true, false, false, false, false, false, false, false, false, false, false, false, false, false, false, false, false, false, false, false, false, false, false] rfl rfl (any_of HT_.out (by kernel_rfl)) (fun _ _ _ h => h) (Or.inr ⟨by rfl, rfl⟩) ?_ ?_
                                        rotate_left
                                        · simp only [Act.put, List.setIfInBounds_toArray, List.set_cons_zero, List.set_cons_succ, i64_w, i32_w]
                                          rfl
                                        refine pure_ (i := 21) (N := some 102) (v := undef) (a' := ?_) #[true, true, true, true, true, true, true, true, true, true, true, true, true, true, true, true, true, true, true, true, true, true, false, false, false, false, false, false, false, false, false, false, false, false, false, false, false, false, false, false, false, false, false] rfl rfl (any_of HT_.out (by kernel_rfl)) (fun _ _ _ h => h) (Or.inr ⟨by rfl, rfl⟩) ?_ ?_
                                        rotate_left
                                        · simp only [Act.put, List.setIfInBounds_toArray, List.set_cons_zero, List.set_cons_succ, i64_w, i32_w]
                                          rfl
                                        refine pure_ (i := 22) (N := some 103) (v := undef) (a' := ?_) #[true, true, true, true, true, true, true, true, true, true, true, true, true, true, true, true, true, true, true, true, true, true, true, false, false, false, false, false, false, false, false, false, false, false, false, false, false, false, false, false, false, false, false] rfl rfl (any_of HT_.out (by kernel_rfl)) (fun _ _ _ h => h) (Or.inr ⟨by rfl, rfl⟩) ?_ ?_
                                        rotate_left
                                        · simp only [Act.put, List.setIfInBounds_toArray, List.set_cons_zero, List.set_cons_succ, i64_w, i32_w]
                                          rfl
                                        refine pure_ (i := 23) (N := some 104) (v := undef) (a' := ?_) #[true, true, true, true, true, true, true, true, true, true, true, true, true, true, true, true, true, true, true, true, true, true, true, true, false, false, false, false, false, false, false, false, false, false, false, false, false, false, false, false, false, false, false] rfl rfl (any_of HT_.out (by kernel_rfl)) (fun _ _ _ h => h) (Or.inr ⟨by rfl, rfl⟩) ?_ ?_
                                        rotate_left
                                        · simp only [Act.put, List.setIfInBounds_toArray, List.set_cons_zero, List.set_cons_succ, i64_w, i32_w]
                                          rfl
                                        refine pure_ (i := 24) (N := some 105) (v := undef) (a' := ?_) #[true, true, true, true, true, true, true, true, true, true, true, true, true, true, true, true, true, true, true, true, true, true, true, true, true, false, false, false, false, false, false, false, false, false, false, false, false, false, false, false, false, false, false] rfl rfl (any_of HT_.out (by kernel_rfl)) (fun _ _ _ h => h) (Or.inr ⟨by rfl, rfl⟩) ?_ ?_
                                        rotate_left
                                        · simp only [Act.put, List.setIfInBounds_toArray, List.set_cons_zero, List.set_cons_succ, i64_w, i32_w]
                                          rfl
                                        refine pure_ (i := 25) (N := some 106) (v := undef) (a' := ?_) #[true, true, true, true, true, true, true, true, true, true, true, true, true, true, true, true, true, true, true, true, true, true, true, true, true, true, false, false, false, false, false, false, false, false, false, false, false, false, false, false, false, false, false] rfl rfl (any_of HT_.out (by kernel_rfl)) (fun _ _ _ h => h) (Or.inr ⟨by rfl, rfl⟩) ?_ ?_
                                        rotate_left
                                        · simp only [Act.put, List.setIfInBounds_toArray, List.set_cons_zero, List.set_cons_succ, i64_w, i32_w]
                                          rfl
                                        refine pure_ (i := 26) (N := some 107) (v := undef) (a' := ?_) #[true, true, true, true, true, true, true, true, true, true, true, true, true, true, true, true, true, true, true, true, true, true, true, true, true, true, true, false, false, false, false, false, false, false, false, false, false, false, false, false, false, false, false] rfl rfl (any_of HT_.out (by kernel_rfl)) (fun _ _ _ h => h) (Or.inr ⟨by rfl, rfl⟩) ?_ ?_
                                        rotate_left
                                        · simp only [Act.put, List.setIfInBounds_toArray, List.set_cons_zero, List.set_cons_succ, i64_w, i32_w]
                                          rfl
                                        refine pure_ (i := 27) (N := some 108) (v := ?_) (a' := ?_) #[true, true, true, true, true, true, true, true, true, true, true, true, true, true, true, true, true, true, true, true, true, true, true, true, true, true, true, true, false, false, false, false, false, false, false, false, false, false, false, false, false, false, false] rfl rfl (any_of HT_.out (by kernel_rfl)) (fun _ _ _ h => h) (Or.inl ⟨by rfl, ?_⟩) ?_ ?_
                                        rotate_left
                                        · intro w'
                                          go_simp
                                          with_reducible rfl
                                        rotate_left
                                        · simp only [Act.put, List.setIfInBounds_toArray, List.set_cons_zero, List.set_cons_succ, i64_w, i32_w]
                                          rfl
                                        refine pure_ (i := 28) (N := some 109) (v := ?_) (a' := ?_) #[true, true, true, true, true, true, true, true, true, true, true, true, true, true, true, true, true, true, true, true, true, true, true, true, true, true, true, true, true, false, false, false, false, false, false, false, false, false, false, false, false, false, false] rfl rfl (any_of HT_.out (by kernel_rfl)) (fun _ _ _ h => h) (Or.inl ⟨by rfl, ?_⟩) ?_ ?_
                                        rotate_left
                                        · intro w'
                                          go_simp
                                          with_reducible rfl
                                        rotate_left
                                        · simp only [Act.put, List.setIfInBounds_toArray, List.set_cons_zero, List.set_cons_succ, i64_w, i32_w]
                                          rfl
                                        refine pure_ (i := 29) (N := some 110) (v := undef) (a' := ?_) #[true, true, true, true, true, true, true, true, true, true, true, true, true, true, true, true, true, true, true, true, true, true, true, true, true, true, true, true, true, true, false, false, false, false, false, false, false, false, false, false, false, false, false] rfl rfl (any_of HT_.out (by kernel_rfl)) (fun _ _ _ h => h) (Or.inr ⟨by rfl, rfl⟩) ?_ ?_
                                        rotate_left
                                        · simp only [Act.put, List.setIfInBounds_toArray, List.set_cons_zero, List.set_cons_succ, i64_w, i32_w]
                                          rfl
                                        refine pure_ (i := 30) (N := some 111) (v := undef) (a' := ?_) #[true, true, true, true, true, true, true, true, true, true, true, true, true, true, true, true, true, true, true, true, true, true, true, true, true, true, true, true, true, true, true, false, false, false, false, false, false, false, false, false, false, false, false] rfl rfl (any_of HT_.out (by kernel_rfl)) (fun _ _ _ h => h) (Or.inr ⟨by rfl, rfl⟩) ?_ ?_
                                        rotate_left
                                        · simp only [Act.put, List.setIfInBounds_toArray, List.set_cons_zero, List.set_cons_succ, i64_w, i32_w]
                                          rfl
                                        refine pure_ (i := 31) (N := some 112) (v := undef) (a' := ?_) #[true, true, true, true, true, true, true, true, true, true, true, true, true, true, true, true, true, true, true, true, true, true, true, true, true, true, true, true, true, true, true, true, false, false, false, false, false, false, false, false, false, false, false] rfl rfl (any_of HT_.out (by kernel_rfl)) (fun _ _ _ h => h) (Or.inr ⟨by rfl, rfl⟩) ?_ ?_
                                        rotate_left
                                        · simp only [Act.put, List.setIfInBounds_toArray, List.set_cons_zero, List.set_cons_succ, i64_w, i32_w]
                                          rfl
                                        refine pure_ (i := 32) (N := some 113) (v := undef) (a' := ?_) #[true, true, true, true, true, true, true, true, true, true, true, true, true, true, true, true, true, true, true, true, true, true, true, true, true, true, true, true, true, true, true, true, true, false, false, false, false, false, false, false, false, false, false] rfl rfl (any_of HT_.out (by kernel_rfl)) (fun _ _ _ h => h) (Or.inr ⟨by rfl, rfl⟩) ?_ ?_
                                        rotate_left
                                        · simp only [Act.put, List.setIfInBounds_toArray, List.set_cons_zero, List.set_cons_succ, i64_w, i32_w]
                                          rfl
                                        refine pure_ (i := 33) (N := some 114) (v := undef) (a' := ?_) #[true, true, true, true, true, true, true, true, true, true, true, true, true, true, true, true, true, true, true, true, true, true, true, true, true, true, true, true, true, true, true, true, true, true, false, false, false, false, false, false, false, false, false] rfl rfl (any_of HT_.out (by kernel_rfl)) (fun _ _ _ h => h) (Or.inr ⟨by rfl, rfl⟩) ?_ ?_
                                        rotate_left
                                        · simp only [Act.put, List.setIfInBounds_toArray, List.set_cons_zero, List.set_cons_succ, i64_w, i32_w]
                                          rfl
                                        refine pure_ (i := 34) (N := some 115) (v := undef) (a' := ?_) #[true, true, true, true, true, true, true, true, true, true, true, true, true, true, true, true, true, true, true, true, true, true, true, true, true, true, true, true, true, true, true, true, true, true, true, false, false, false, false, false, false, false, false] rfl rfl (any_of HT_.out (by kernel_rfl)) (fun _ _ _ h => h) (Or.inr ⟨by rfl, rfl⟩) ?_ ?_
                                        rotate_left
                                        · simp only [Act.put, List.setIfInBounds_toArray, List.set_cons_zero, List.set_cons_succ, i64_w, i32_w]
                                          rfl
                                        refine pure_ (i := 35) (N := some 116) (v := undef) (a' := ?_) #[true, true, true, true, true, true, true, true, true, true, true, true, true, true, true, true, true, true, true, true, true, true, true, true, true, true, true, true, true, true, true, true, true, true, true, true, false, false, false, false, false, false, false] rfl rfl (any_of HT_.out (by kernel_rfl)) (fun _ _ _ h => h) (Or.inr ⟨by rfl, rfl⟩) ?_ ?_
                                        rotate_left
                                        · simp only [Act.put, List.setIfInBounds_toArray, List.set_cons_zero, List.set_cons_succ, i64_w, i32_w]
                                          rfl
                                        refine pure_ (i := 36) (N := some 117) (v := undef) (a' := ?_) #[true, true, true, true, true, true, true, true, true, true, true, true, true, true, true, true, true, true, true, true, true, true, true, true, true, true, true, true, true, true, true, true, true, true, true, true, true, false, false, false, false, false, false] rfl rfl (any_of HT_.out (by kernel_rfl)) (fun _ _ _ h => h) (Or.inr ⟨by rfl, rfl⟩) ?_ ?_
                                        rotate_left
                                        · simp only [Act.put, List.setIfInBounds_toArray, List.set_cons_zero, List.set_cons_succ, i64_w, i32_w]
                                          rfl
                                        refine pure_ (i := 37) (N := some 118) (v := undef) (a' := ?_) #[true, true, true, true, true, true, true, true, true, true, true, true, true, true, true, true, true, true, true, true, true, true, true, true, true, true, true, true, true, true, true, true, true, true, true, true, true, true, false, false, false, false, false] rfl rfl (any_of HT_.out (by kernel_rfl)) (fun _ _ _ h => h) (Or.inr ⟨by rfl, rfl⟩) ?_ ?_
                                        rotate_left
                                        · simp only [Act.put, List.setIfInBounds_toArray, List.set_cons_zero, List.set_cons_succ, i64_w, i32_w]
                                          rfl
                                        refine pure_ (i := 38) (N := some 119) (v := undef) (a' := ?_) #[true, true, true, true, true, true, true, true, true, true, true, true, true, true, true, true, true, true, true, true, true, true, true, true, true, true, true, true, true, true, true, true, true, true, true, true, true, true, true, false, false, false, false] rfl rfl (any_of HT_.out (by kernel_rfl)) (fun _ _ _ h => h) (Or.inr ⟨by rfl, rfl⟩) ?_ ?_
                                        rotate_left
                                        · simp only [Act.put, List.setIfInBounds_toArray, List.set_cons_zero, List.set_cons_succ, i64_w, i32_w]
                                          rfl
                                        refine pure_ (i := 39) (N := some 120) (v := undef) (a' := ?_) #[true, true, true, true, true, true, true, true, true, true, true, true, true, true, true, true, true, true, true, true, true, true, true, true, true, true, true, true, true, true, true, true, true, true, true, true, true, true, true, true, false, false, false] rfl rfl (any_of HT_.out (by kernel_rfl)) (fun _ _ _ h => h) (Or.inr ⟨by rfl, rfl⟩) ?_ ?_
                                        rotate_left
                                        · simp only [Act.put, List.setIfInBounds_toArray, List.set_cons_zero, List.set_cons_succ, i64_w, i32_w]
                                          rfl
                                        refine pure_ (i := 40) (N := some 121) (v := undef) (a' := ?_) #[true, true, true, true, true, true, true, true, true, true, true, true, true, true, true, true, true, true, true, true, true, true, true, true, true, true, true, true, true, true, true, true, true, true, true, true, true, true, true, true, true, false, false] rfl rfl (any_of HT_.out (by kernel_rfl)) (fun _ _ _ h => h) (Or.inr ⟨by rfl, rfl⟩) ?_ ?_
                                        rotate_left
                                        · simp only [Act.put, List.setIfInBounds_toArray, List.set_cons_zero, List.set_cons_succ, i64_w, i32_w]
                                          rfl
                                        refine pure_ (i := 41) (N := some 122) (v := undef) (a' := ?_) #[true, true, true, true, true, true, true, true, true, true, true, true, true, true, true, true, true, true, true, true, true, true, true, true, true, true, true, true, true, true, true, true, true, true, true, true, true, true, true, true, true, true, false] rfl rfl (any_of HT_.out (by kernel_rfl)) (fun _ _ _ h => h) (Or.inr ⟨by rfl, rfl⟩) ?_ ?_
                                        rotate_left
                                        · simp only [Act.put, List.setIfInBounds_toArray, List.set_cons_zero, List.set_cons_succ, i64_w, i32_w]
                                          rfl
                                        refine pure_ (i := 42) (N := some 123) (v := ?_) (a' := ?_) #[true, true, true, true, true, true, true, true, true, true, true, true, true, true, true, true, true, true, true, true, true, true, true, true, true, true, true, true, true, true, true, true, true, true, true, true, true, true, true, true, true, true, true] rfl rfl (any_of HT_.out (by kernel_rfl)) (fun _ _ _ h => h) (Or.inl ⟨by rfl, ?_⟩) ?_ ?_
                                        rotate_left
                                        · intro w'
                                          go_simp
                                          with_reducible rfl
                                        rotate_left
                                        · simp only [Act.put, List.setIfInBounds_toArray, List.set_cons_zero, List.set_cons_succ, i64_w, i32_w]
                                          rfl
                                        refine done_ (done_of HT_.out (by kernel_rfl)) ?_
                                        try go_wp2
                                        go_ret
                                        exact ⟨by first | rfl | (simp [errW_none, errW_some] <;> rfl) | (simp only [← hji43]; first | rfl | (simp [errW_none, errW_some] <;> rfl)) | (simp [*, errW_none, errW_some] <;> rfl), by repeat (first | (with_reducible first | exact HB.out | apply below_alloc | apply pw_below_drewN | apply below_drew1) | exact HB.out)⟩
                                    · rw [if_neg c47] at H
                                      exact absurd H (by simp)
                                  · rw [if_neg c46] at H
                                    exact absurd H (by simp)
                                · rw [if_neg c45] at H
                                  exact absurd H (by simp)
                              · rw [if_neg c44] at H
                                exact absurd H (by simp)
                            · rw [if_neg c42] at H
                              have c42b0 : decide (x78_4 < (t335.length : Int)) = false := decide_eq_false c42
                              clear c42
                              replace H := Option.bind_eq_some_iff.mp H
                              obtain ⟨t348, A600, H⟩ := H
                              replace H : (some t348) = some r := H
                              have A60 := Aside0.mk A600
                              clear A600
                              obtain rfl := Option.some.inj H
                              go_wp2_with (first | ((with_reducible refine gate_callee (f := 13) rfl ?_); refine goesL_ (some 125) rfl rfl Try.func13 (by kernel_rfl) rfl #[] rfl (by (try simp only [List.map_toArray, List.map_cons, List.map_nil]); first | done | rfl | (simp only [List.length_drop, List.length_take]; rfl)) ?_; (with_reducible refine (laws_marksWork.calls  t348 _ A60.out).mono ?_); rintro e w61 ⟨rfl, hb⟩; refine ⟨_, rfl, ?_⟩; have n0_ := Aside0.mk (Kd.N_below (by (with_reducible repeat (first | apply Kd.N_alloc | apply Kd.N_drewN | apply Kd.N_drew)); exact HO_10.out) hb); have n1_ := Aside0.mk (Kd.N_below (by (with_reducible repeat (first | apply Kd.N_alloc | apply Kd.N_drewN | apply Kd.N_drew)); exact HO_11.out) hb); have n2_ := Aside0.mk (below_step (by repeat (first | (with_reducible first | exact HB.out | apply below_alloc | apply pw_below_drewN | apply below_drew1) | exact HB.out)) hb); clear HO_10; clear HO_11; clear HB; have HO_10 := n0_; have HO_11 := n1_; have HB := n2_; clear n0_ n1_ n2_; (try clear hb); (try clear hb2); (try clear hk); (try clear hi)))
                              go_ret
                              exact ⟨by first | rfl | (simp [errW_none, errW_some] <;> rfl) | (simp [*, errW_none, errW_some] <;> rfl), by repeat (first | (with_reducible first | exact HB.out | apply below_alloc | apply pw_below_drewN | apply below_drew1) | exact HB.out)⟩
          · rw [if_neg c12] at H
            exact absurd H (by simp)
  · replace c4 := Bool.eq_false_iff.mpr c4
    subst c4
    have H1 : (some true) = some r := by rw [if_neg (show ¬ (false = true) by decide)] at H; exact H
    clear H
    have H := H1
    clear H1
    obtain rfl := Option.some.inj H
    go_enter Try.func8, Try.ntmps8
    go_wp2_with (first | ((with_reducible refine gate_callee (f := 11) rfl ?_); refine goesL_ (some 14) rfl rfl Try.func11 (by kernel_rfl) rfl #[.slice A0 l0.length c0] rfl (by (try simp only [List.map_toArray, List.map_cons, List.map_nil]); first | done | rfl | (simp only [List.length_drop, List.length_take]; rfl)) ?_; (with_reducible refine (laws_zzFits1.calls k _ _ l0 false _ ?side1 ?side2 A3.out).mono ?_); (case side1 => repeat (first | exact HR0.out | (with_reducible refine Kd.C_alloc ?_ _) | (with_reducible refine Kd.C_drewN ?_ _) | (with_reducible refine Kd.C_drew ?_))); (case side2 => exact HC0.out); rintro e w62 ⟨rfl, hb⟩; refine ⟨_, rfl, ?_⟩; have n0_ := Aside0.mk (below_step (by repeat (first | (with_reducible first | exact HB.out | apply below_alloc | apply pw_below_drewN | apply below_drew1) | exact HB.out)) hb); clear HB; have HB := n0_; clear n0_; (try clear hb); (try clear hb2); (try clear hk); (try clear hi)))
    go_ret
    exact ⟨by first | rfl | (simp [errW_none, errW_some] <;> rfl) | (simp [*, errW_none, errW_some] <;> rfl), by repeat (first | (with_reducible first | exact HB.out | apply below_alloc | apply pw_below_drewN | apply below_drew1) | exact HB.out)⟩

end Go.Proofs.Ytimakagmhikhfaa.M
