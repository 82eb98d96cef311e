/- FnMarkMany's own function, where it says yes. -/
import Derived.Test.YtimakagmhikhfaaMx1
import Derived.Test.YtimakagmhikhfaaMx3
import Derived.Test.YtimakagmhikhfaaSg
namespace Go.Proofs.Ytimakagmhikhfaa.M
open Go.RowKit Go.Proofs.YtimakagmhikhfaaW.PrintWords Go.Proofs.YtimakagmhikhfaaW.PrintLast Go.Proofs.YtimakagmhikhfaaW.PrintMore
attribute [local go_sem] max2_int min2_int max_two min_two max_three min_three max_four min_four   -- for this text's walks alone
set_option linter.unusedVariables false
set_option linter.unusedSimpArgs false

/-! ### laws_FnMarkMany: function 4 -/
mutual
def laws_FnMarkMany.j0 : Nat → List (S31) → Bool → Option (Bool)
  | 0, _, _ => none
  | k + 1, x0, x23 => if x23 = true then ((laws_marksWork.f).bind fun t157 => (some t157)) else ((impl_RunMarks.f x0).bind fun t158 => ((spec_Singles.f k x0).bind fun t161 => ((impl_RunMarks.f t161).bind fun t164 => (if (t158.length : Int) = (x0.length : Int) then (laws_FnMarkMany.j1 k t158 t164 (decide ((t164.length : Int) < (t158.length : Int)))) else (laws_FnMarkMany.j1 k t158 t164 true)))))
def laws_FnMarkMany.j1 : Nat → List (S34) → List (S34) → Bool → Option (Bool)
  | 0, _, _, _ => none
  | k + 1, x5, x6, x41 => if x41 = true then (some false) else (if 0 ≤ (wrap64 ((x5.length : Int) - 1)) then (if (wrap64 ((x5.length : Int) - 1)) < (x5.length : Int) then (if 0 ≤ (wrap64 ((x6.length : Int) - 1)) then (if (wrap64 ((x6.length : Int) - 1)) < (x6.length : Int) then (if ((rd_T34 x5 (wrap64 ((x5.length : Int) - 1))).f0) = ((rd_T34 x6 (wrap64 ((x6.length : Int) - 1))).f0) then (if ((rd_T34 x5 (wrap64 ((x5.length : Int) - 1))).f1) = ((rd_T34 x6 (wrap64 ((x6.length : Int) - 1))).f1) then (if ((rd_T34 x5 (wrap64 ((x5.length : Int) - 1))).f2) = ((rd_T34 x6 (wrap64 ((x6.length : Int) - 1))).f2) then ((laws_sameBools.f k ((rd_T34 x5 (wrap64 ((x5.length : Int) - 1))).f4) ((rd_T34 x6 (wrap64 ((x6.length : Int) - 1))).f4)).bind fun t171 => (if t171 = true then ((laws_marksWork.f).bind fun t172 => (some t172)) else (some false))) else (some false)) else (some false)) else (some false)) else (none)) else (none)) else (none)) else (none))
end
def laws_FnMarkMany.f (k : Nat) (l0 : List (S31)) : Option (Bool) := (laws_zzFits1.f k l0).bind fun t152 => (if t152 = true then ((spec_Marks.f l0).bind fun bt153 => (if bt153.2 = true then (laws_FnMarkMany.j0 k l0 ((l0.length : Int) == 0)) else (laws_FnMarkMany.j0 k l0 true))) else (some true))
theorem laws_FnMarkMany.mono_l : ∀ k, (∀ y0 y1, LeO (laws_FnMarkMany.j0 k y0 y1) (laws_FnMarkMany.j0 (k + 1) y0 y1)) ∧ (∀ y0 y1 y2, LeO (laws_FnMarkMany.j1 k y0 y1 y2) (laws_FnMarkMany.j1 (k + 1) y0 y1 y2))
  | 0 => ⟨fun _ _ r h => by simp [laws_FnMarkMany.j0] at h, fun _ _ _ r h => by simp [laws_FnMarkMany.j1] at h⟩
  | k + 1 => by
    obtain ⟨ih0, ih1⟩ := laws_FnMarkMany.mono_l k
    refine ⟨?_, ?_⟩
    · intro y0 y1
      unfold laws_FnMarkMany.j0
      repeat' first
      | (with_reducible exact ih0 _ _)
      | (with_reducible exact ih1 _ _ _)
      | (with_reducible exact laws_sameBools.mono _ _ _)
      | (with_reducible exact laws_zzFits1.mono _ _)
      | (with_reducible exact spec_Singles.mono _ _)
      | (with_reducible exact LeO.refl _)
      | (with_reducible exact LeO.none _)
      | (with_reducible refine LeO.ite ?_ ?_)
      | (with_reducible refine LeO.bind ?_ (fun _ => ?_))
      | exact ih0 _ _
      | exact ih1 _ _ _
      | exact laws_sameBools.mono _ _ _
      | exact laws_zzFits1.mono _ _
      | exact spec_Singles.mono _ _
      | exact LeO.none _
      | refine LeO.ite ?_ ?_
      | refine LeO.bind ?_ (fun _ => ?_)
    · intro y0 y1 y2
      unfold laws_FnMarkMany.j1
      repeat' first
      | (with_reducible exact ih0 _ _)
      | (with_reducible exact ih1 _ _ _)
      | (with_reducible exact laws_sameBools.mono _ _ _)
      | (with_reducible exact laws_zzFits1.mono _ _)
      | (with_reducible exact spec_Singles.mono _ _)
      | (with_reducible exact LeO.refl _)
      | (with_reducible exact LeO.none _)
      | (with_reducible refine LeO.ite ?_ ?_)
      | (with_reducible refine LeO.bind ?_ (fun _ => ?_))
      | exact ih0 _ _
      | exact ih1 _ _ _
      | exact laws_sameBools.mono _ _ _
      | exact laws_zzFits1.mono _ _
      | exact spec_Singles.mono _ _
      | exact LeO.none _
      | refine LeO.ite ?_ ?_
      | refine LeO.bind ?_ (fun _ => ?_)
theorem laws_FnMarkMany.mono : ∀ a0 k, LeO (laws_FnMarkMany.f k a0) (laws_FnMarkMany.f (k + 1) a0) := by
  intro a0 k
  obtain ⟨ih0, ih1⟩ := laws_FnMarkMany.mono_l k
  unfold laws_FnMarkMany.f
  repeat' first
      | (with_reducible exact ih0 _ _)
      | (with_reducible exact ih1 _ _ _)
      | (with_reducible exact laws_sameBools.mono _ _ _)
      | (with_reducible exact laws_zzFits1.mono _ _)
      | (with_reducible exact spec_Singles.mono _ _)
      | (with_reducible exact LeO.refl _)
      | (with_reducible exact LeO.none _)
      | (with_reducible refine LeO.ite ?_ ?_)
      | (with_reducible refine LeO.bind ?_ (fun _ => ?_))
      | exact ih0 _ _
      | exact ih1 _ _ _
      | exact laws_sameBools.mono _ _ _
      | exact laws_zzFits1.mono _ _
      | exact spec_Singles.mono _ _
      | exact LeO.none _
      | refine LeO.ite ?_ ?_
      | refine LeO.bind ?_ (fun _ => ?_)
def laws_FnMarkMany.T9 : Bool × List (List Nat × List Nat) := (true, [([], []), ([], []), ([1], [1]), ([2], [2]), ([0, 3], [0, 3]), ([4], [4]), ([], []), ([], []), ([7], [7]), ([8], [8]), ([6, 9], [6, 9]), ([10], [10]), ([], []), ([], []), ([12, 5, 0, 1, 2, 3, 4, 5, 12, 13], [5, 12]), ([13, 11, 14, 0, 1, 2, 3, 4, 5, 6, 7, 8, 9, 10, 11, 12, 13, 14], [11, 13])])
def laws_FnMarkMany.B9 : List Nat := [0, 0, 2, 6, 15, 31, 0, 0, 128, 384, 960, 1984, 0, 0, 12351, 32767]
theorem laws_FnMarkMany.tab9 : rtab .any (opsOf Try.f4 9) = laws_FnMarkMany.T9 := by kernel_rfl
theorem laws_FnMarkMany.bits9 : waitsOk laws_FnMarkMany.T9.2 laws_FnMarkMany.B9 = true := by kernel_rfl
set_option maxHeartbeats 8000000 in
set_option maxRecDepth 100000 in
theorem laws_FnMarkMany.calls (k : Nat) (A0 : Option Addr) (c0 : Nat) (l0 : List (S31)) (r : Bool) (hrt : Aside0 (r = true)) (w : World) (hr0 : Kd.C k31 w A0 l0.length l0) (hc0 : l0.length ≤ c0) (h : laws_FnMarkMany.f k l0 = some r) :
    Calls Try.prog 4 #[.slice A0 l0.length c0] w fun e w' => e = .returned (.bool r) ∧ Below w.heap.size w w' := by
  have hu34 := Try.underlying34
  have HR0 := Aside0.mk hr0
  have HC0 := Aside0.mk hc0
  clear hr0 hc0
  have HB := Aside0.mk (Below.refl w.heap.size w)
  have H : ((laws_zzFits1.f k l0).bind fun t152 => (if t152 = true then ((spec_Marks.f l0).bind fun bt153 => (if bt153.2 = true then (laws_FnMarkMany.j0 k l0 ((l0.length : Int) == 0)) else (laws_FnMarkMany.j0 k l0 true))) else (some true))) = some r := h
  clear h
  replace H := Option.bind_eq_some_iff.mp H
  obtain ⟨t152, A20, H⟩ := H
  replace H : (if t152 = true then ((spec_Marks.f l0).bind fun bt153 => (if bt153.2 = true then (laws_FnMarkMany.j0 k l0 ((l0.length : Int) == 0)) else (laws_FnMarkMany.j0 k l0 true))) else (some true)) = some r := H
  have A2 := Aside0.mk A20
  clear A20
  by_cases c3 : t152 = true
  · subst c3
    have H1 : ((spec_Marks.f l0).bind fun bt153 => (if bt153.2 = true then (laws_FnMarkMany.j0 k l0 ((l0.length : Int) == 0)) else (laws_FnMarkMany.j0 k l0 true))) = some r := by rw [if_pos rfl] at H; exact H
    clear H
    have H := H1
    clear H1
    replace H := Option.bind_eq_some_iff.mp H
    obtain ⟨⟨t153, t154⟩, A40, H⟩ := H
    replace H : (if t154 = true then (laws_FnMarkMany.j0 k l0 ((l0.length : Int) == 0)) else (laws_FnMarkMany.j0 k l0 true)) = some r := H
    have A4 := Aside0.mk A40
    clear A40
    have HC5 := Aside0.mk H
    clear H
    go_enter Try.func4, Try.ntmps4
    go_upto_region 4 with (first | ((with_reducible refine gate_callee (f := 11) rfl ?_); refine goesL_ (some 10) rfl rfl Try.func11 (by kernel_rfl) rfl #[.slice A0 l0.length c0] rfl (by (try simp only [List.map_toArray, List.map_cons, List.map_nil]); first | done | rfl | (simp only [List.length_drop, List.length_take]; rfl)) ?_; (with_reducible refine (laws_zzFits1.calls k _ _ l0 true _ ?side1 ?side2 A2.out).mono ?_); (case side1 => repeat (first | exact HR0.out | (with_reducible refine Kd.C_alloc ?_ _) | (with_reducible refine Kd.C_drewN ?_ _) | (with_reducible refine Kd.C_drew ?_))); (case side2 => exact HC0.out); rintro e w6 ⟨rfl, hb⟩; refine ⟨_, rfl, ?_⟩; have n0_ := Aside0.mk (below_step (by repeat (first | (with_reducible first | exact HB.out | apply below_alloc | apply pw_below_drewN | apply below_drew1) | exact HB.out)) hb); clear HB; have HB := n0_; clear n0_; (try clear hb); (try clear hb2); (try clear hk); (try clear hi)) | ((with_reducible refine gate_callee (f := 12) rfl ?_); refine goesL_ (some 14) rfl rfl Try.func12 (by kernel_rfl) rfl #[.slice A0 l0.length c0] rfl (by (try simp only [List.map_toArray, List.map_cons, List.map_nil]); first | done | rfl | (simp only [List.length_drop, List.length_take]; rfl)) ?_; (with_reducible refine (spec_Marks.calls _ _ l0 t153 t154 _ ?side1 ?side2 A4.out).mono ?_); (case side1 => repeat (first | exact (Kd.C_below HR0.out HB.out) | (with_reducible refine Kd.C_alloc ?_ _) | (with_reducible refine Kd.C_drewN ?_ _) | (with_reducible refine Kd.C_drew ?_))); (case side2 => exact HC0.out); rintro e w7 ⟨v155, rfl, ho0, hb⟩; refine ⟨_, rfl, ?_⟩; have n0_ := Aside0.mk (Kd.N_lower (Kd.N_mono (ok' := fun k_ => True) (Kd.S_N (Kd.S_bound ho0)) (fun k_ hk_ => trivial)) (below_size (by repeat (first | (with_reducible first | exact HB.out | apply below_alloc | apply pw_below_drewN | apply below_drew1) | exact HB.out)))); have n1_ := Aside0.mk (below_step (by repeat (first | (with_reducible first | exact HB.out | apply below_alloc | apply pw_below_drewN | apply below_drew1) | exact HB.out)) hb); clear HB; have HO156 := n0_; have HB := n1_; clear n0_ n1_; (try clear hb); (try clear hb2); (try clear hk); (try clear hi); (try clear ho0)))
    (try simp only [Act.put, List.setIfInBounds_toArray, List.set_cons_zero, List.set_cons_succ])
    go_cut [23] (fun v23 wc => ∃ (kq : Nat) (x23_4 : Bool), v23 = .bool x23_4 ∧ Aside0 (laws_FnMarkMany.j0 kq l0 x23_4 = some r) ∧ Aside0 (kq ≤ k) ∧ Aside0 (Below w.heap.size w wc))
    case first =>
      have H := HC5.out
      clear HC5
      by_cases c8 : t154 = true
      · subst c8
        have H1 : (laws_FnMarkMany.j0 k l0 ((l0.length : Int) == 0)) = some r := by rw [if_pos rfl] at H; exact H
        clear H
        have H := H1
        clear H1
        have H' := Aside0.mk H
        clear H
        go_wp2
        go_meet
        case rel => exact ⟨_, (((l0.length : Int) == 0)), (by first | rfl | (simp; done) | (simp [*]; done)), H', ⟨by first | omega | exact Nat.le_refl _⟩, ⟨by repeat (first | (with_reducible first | exact HB.out | apply below_alloc | apply pw_below_drewN | apply below_drew1) | exact HB.out)⟩⟩
      · replace c8 := Bool.eq_false_iff.mpr c8
        subst c8
        have H1 : (laws_FnMarkMany.j0 k l0 true) = some r := by rw [if_neg (show ¬ (false = true) by decide)] at H; exact H
        clear H
        have H := H1
        clear H1
        have H' := Aside0.mk H
        clear H
        go_wp2
        go_meet
        case rel => exact ⟨_, (true), (by first | rfl | (simp; done) | (simp [*]; done)), H', ⟨by first | omega | exact Nat.le_refl _⟩, ⟨by repeat (first | (with_reducible first | exact HB.out | apply below_alloc | apply pw_below_drewN | apply below_drew1) | exact HB.out)⟩⟩
    case rest =>
      clear HC5
      try clear c1
      try clear p2
      try clear c3
      try clear c4
      try clear c8
      obtain ⟨kq, x23_4, rfl, HA, HJ4, HB⟩ := hcut
      cases kq with
      | zero => exact absurd HA.out (by simp [laws_FnMarkMany.j0])
      | succ kj4 =>
        have H := HA.out
        clear HA
        simp only [laws_FnMarkMany.j0] at H
        by_cases c9 : x23_4 = true
        · subst c9
          have H1 : ((laws_marksWork.f).bind fun t157 => (some t157)) = some r := by rw [if_pos rfl] at H; exact H
          clear H
          have H := H1
          clear H1
          replace H := Option.bind_eq_some_iff.mp H
          obtain ⟨t157, A100, H⟩ := H
          replace H : (some t157) = some r := H
          have A10 := Aside0.mk A100
          clear A100
          obtain rfl := Option.some.inj H
          go_wp2_with (first | ((with_reducible refine gate_callee (f := 13) rfl ?_); refine goesL_ (some 24) rfl rfl Try.func13 (by kernel_rfl) rfl #[] rfl (by (try simp only [List.map_toArray, List.map_cons, List.map_nil]); first | done | rfl | (simp only [List.length_drop, List.length_take]; rfl)) ?_; (with_reducible refine (laws_marksWork.calls  t157 _ A10.out).mono ?_); rintro e w11 ⟨rfl, hb⟩; refine ⟨_, rfl, ?_⟩; have n0_ := Aside0.mk (below_step (by repeat (first | (with_reducible first | exact HB.out | apply below_alloc | apply pw_below_drewN | apply below_drew1) | exact HB.out)) hb); clear HB; have HB := n0_; clear n0_; (try clear hb); (try clear hb2); (try clear hk); (try clear hi)))
          go_ret
          exact ⟨by first | rfl | (simp [errW_none, errW_some] <;> rfl) | (simp [*, errW_none, errW_some] <;> rfl), by repeat (first | (with_reducible first | exact HB.out | apply below_alloc | apply pw_below_drewN | apply below_drew1) | exact HB.out)⟩
        · replace c9 := Bool.eq_false_iff.mpr c9
          subst c9
          have H1 : ((impl_RunMarks.f l0).bind fun t158 => ((spec_Singles.f kj4 l0).bind fun t161 => ((impl_RunMarks.f t161).bind fun t164 => (if (t158.length : Int) = (l0.length : Int) then (laws_FnMarkMany.j1 kj4 t158 t164 (decide ((t164.length : Int) < (t158.length : Int)))) else (laws_FnMarkMany.j1 kj4 t158 t164 true))))) = some r := by rw [if_neg (show ¬ (false = true) by decide)] at H; exact H
          clear H
          have H := H1
          clear H1
          replace H := Option.bind_eq_some_iff.mp H
          obtain ⟨t158, A120, H⟩ := H
          replace H : ((spec_Singles.f kj4 l0).bind fun t161 => ((impl_RunMarks.f t161).bind fun t164 => (if (t158.length : Int) = (l0.length : Int) then (laws_FnMarkMany.j1 kj4 t158 t164 (decide ((t164.length : Int) < (t158.length : Int)))) else (laws_FnMarkMany.j1 kj4 t158 t164 true)))) = some r := H
          have A12 := Aside0.mk A120
          clear A120
          replace H := Option.bind_eq_some_iff.mp H
          obtain ⟨t161, A130, H⟩ := H
          replace H : ((impl_RunMarks.f t161).bind fun t164 => (if (t158.length : Int) = (l0.length : Int) then (laws_FnMarkMany.j1 kj4 t158 t164 (decide ((t164.length : Int) < (t158.length : Int)))) else (laws_FnMarkMany.j1 kj4 t158 t164 true))) = some r := H
          have A13 := Aside0.mk A130
          clear A130
          replace H := Option.bind_eq_some_iff.mp H
          obtain ⟨t164, A140, H⟩ := H
          replace H : (if (t158.length : Int) = (l0.length : Int) then (laws_FnMarkMany.j1 kj4 t158 t164 (decide ((t164.length : Int) < (t158.length : Int)))) else (laws_FnMarkMany.j1 kj4 t158 t164 true)) = some r := H
          have A14 := Aside0.mk A140
          clear A140
          have HC15 := Aside0.mk H
          clear H
          go_upto_region 7 with (first | ((with_reducible refine gate_callee (f := 14) rfl ?_); refine goesL_ (some 26) rfl rfl Try.func14 (by kernel_rfl) rfl #[.slice A0 l0.length c0] rfl (by (try simp only [List.map_toArray, List.map_cons, List.map_nil]); first | done | rfl | (simp only [List.length_drop, List.length_take]; rfl)) ?_; (with_reducible refine (impl_RunMarks.calls _ _ l0 t158 _ ?side1 ?side2 A12.out).mono ?_); (case side1 => repeat (first | exact (Kd.C_below HR0.out HB.out) | (with_reducible refine Kd.C_alloc ?_ _) | (with_reducible refine Kd.C_drewN ?_ _) | (with_reducible refine Kd.C_drew ?_))); (case side2 => exact HC0.out); rintro e w16 ⟨v159, rfl, ho0, hb⟩; refine ⟨_, rfl, ?_⟩; have n0_ := Aside0.mk (Kd.N_lower (Kd.N_mono (ok' := fun k_ => True) (Kd.S_N (Kd.S_bound ho0)) (fun k_ hk_ => trivial)) (below_size (by repeat (first | (with_reducible first | exact HB.out | apply below_alloc | apply pw_below_drewN | apply below_drew1) | exact HB.out)))); have n1_ := Aside0.mk (below_step (by repeat (first | (with_reducible first | exact HB.out | apply below_alloc | apply pw_below_drewN | apply below_drew1) | exact HB.out)) hb); clear HB; have HO160 := n0_; have HB := n1_; clear n0_ n1_; (try clear hb); (try clear hb2); (try clear hk); (try clear hi); (try clear ho0)) | ((with_reducible refine gate_callee (f := 15) rfl ?_); refine goesL_ (some 28) rfl rfl Try.func15 (by kernel_rfl) rfl #[.slice A0 l0.length c0] rfl (by (try simp only [List.map_toArray, List.map_cons, List.map_nil]); first | done | rfl | (simp only [List.length_drop, List.length_take]; rfl)) ?_; (with_reducible refine (spec_Singles.calls kj4 (fun k_ => k_ < w.heap.size) _ _ l0 t161 _ ?side1 A13.out).mono ?_); (case side1 => exact Kd.V_mk HC0.out (Kd.F_below (Kd.C_F k31_heap HR0.out) (by repeat (first | (with_reducible first | exact HB.out | apply below_alloc | apply pw_below_drewN | apply below_drew1) | exact HB.out)))); rintro e w17 ⟨v162, rfl, ho0, hb⟩; refine ⟨_, rfl, ?_⟩; have n0_ := Aside0.mk (Kd.N_elder' (by (with_reducible repeat (first | apply Kd.N_alloc | apply Kd.N_drewN | apply Kd.N_drew)); exact HO160.out) (by first | exact Kd.N_base ho0 | exact Kd.N_base (Kd.S_N ho0)) hb); have n1_ := Aside0.mk (Kd.N_lower (Kd.N_mono (ok' := fun k_ => some k_ ≠ (v159 : Value).ownBlock) ho0 (fun k_ hk_ => Or.elim hk_ (fun hs_ => fun e_ => Nat.not_le.2 hs_ (Kd.N_base HO160.out k_ e_.symm)) (fun hn_ => (Kd.fresh' (Kd.N_lt (by (with_reducible repeat (first | apply Kd.N_alloc | apply Kd.N_drewN | apply Kd.N_drew)); exact HO160.out)) k_ hn_)))) (below_size (by repeat (first | (with_reducible first | exact HB.out | apply below_alloc | apply pw_below_drewN | apply below_drew1) | exact HB.out)))); have n2_ := Aside0.mk (below_step (by repeat (first | (with_reducible first | exact HB.out | apply below_alloc | apply pw_below_drewN | apply below_drew1) | exact HB.out)) hb); clear HO160; clear HB; have HO160 := n0_; have HO163 := n1_; have HB := n2_; clear n0_ n1_ n2_; (try clear hb); (try clear hb2); (try clear hk); (try clear hi); (try clear ho0); obtain ⟨Ao18, co18, eo18⟩ := Kd.N_slice HO163.out; subst eo18) | ((with_reducible refine gate_callee (f := 14) rfl ?_); refine goesL_ (some 29) rfl rfl Try.func14 (by kernel_rfl) rfl #[.slice Ao18 t161.length co18] rfl (by (try simp only [List.map_toArray, List.map_cons, List.map_nil]); first | done | rfl | (simp only [List.length_drop, List.length_take]; rfl)) ?_; (with_reducible refine (impl_RunMarks.calls _ _ t161 t164 _ ?side1 ?side2 A14.out).mono ?_); (case side1 => repeat (first | exact (Kd.N_reads' HO163.out).2.2 | (with_reducible refine Kd.C_alloc ?_ _) | (with_reducible refine Kd.C_drewN ?_ _) | (with_reducible refine Kd.C_drew ?_))); (case side2 => exact (Kd.N_reads' HO163.out).2.1); rintro e w19 ⟨v165, rfl, ho0, hb⟩; refine ⟨_, rfl, ?_⟩; have n0_ := Aside0.mk (Kd.N_elder' (by (with_reducible repeat (first | apply Kd.N_alloc | apply Kd.N_drewN | apply Kd.N_drew)); exact HO160.out) (by first | exact Kd.N_base ho0 | exact Kd.N_base (Kd.S_N ho0)) hb); have n1_ := Aside0.mk (Kd.N_elder' (by (with_reducible repeat (first | apply Kd.N_alloc | apply Kd.N_drewN | apply Kd.N_drew)); exact HO163.out) (by first | exact Kd.N_base ho0 | exact Kd.N_base (Kd.S_N ho0)) hb); have n2_ := Aside0.mk (Kd.N_lower (Kd.N_mono (ok' := fun k_ => some k_ ≠ (v159 : Value).ownBlock ∧ some k_ ≠ (.slice Ao18 t161.length co18 : Value).ownBlock) (Kd.S_N (Kd.S_bound ho0)) (fun k_ hk_ => ⟨(Kd.fresh' (Kd.N_lt (by (with_reducible repeat (first | apply Kd.N_alloc | apply Kd.N_drewN | apply Kd.N_drew)); exact HO160.out)) k_ hk_.2.1), (Kd.fresh' (Kd.N_lt (by (with_reducible repeat (first | apply Kd.N_alloc | apply Kd.N_drewN | apply Kd.N_drew)); exact HO163.out)) k_ hk_.2.1)⟩)) (below_size (by repeat (first | (with_reducible first | exact HB.out | apply below_alloc | apply pw_below_drewN | apply below_drew1) | exact HB.out)))); have n3_ := Aside0.mk (below_step (by repeat (first | (with_reducible first | exact HB.out | apply below_alloc | apply pw_below_drewN | apply below_drew1) | exact HB.out)) hb); clear HO160; clear HO163; clear HB; have HO160 := n0_; have HO163 := n1_; have HO166 := n2_; have HB := n3_; clear n0_ n1_ n2_ n3_; (try clear hb); (try clear hb2); (try clear hk); (try clear hi); (try clear ho0)))
          (try simp only [Act.put, List.setIfInBounds_toArray, List.set_cons_zero, List.set_cons_succ])
          go_cut [41] (fun v41 wc => ∃ (kq : Nat) (x41_14 : Bool), v41 = .bool x41_14 ∧ Aside0 (laws_FnMarkMany.j1 kq t158 t164 x41_14 = some r) ∧ Aside0 (kq ≤ kj4) ∧ Aside0 (Kd.N k34 34 wc w.heap.size (fun k_ => some k_ ≠ (v165 : Value).ownBlock) v159 t158) ∧ Aside0 (Kd.N k34 34 wc w.heap.size (fun k_ => some k_ ≠ (v159 : Value).ownBlock) v165 t164) ∧ Aside0 (Below w.heap.size w wc))
          case first =>
            have H := HC15.out
            clear HC15
            by_cases c20 : (t158.length : Int) = (l0.length : Int)
            · rw [if_pos c20] at H
              have c20b0 : ((t158.length : Int) == (l0.length : Int)) = true := beq_iff_eq.mpr c20
              have c20b1 : ((t158.length : Int) != (l0.length : Int)) = false := bne_eq_false_iff_eq.mpr c20
              have c20b2 : (t158.length == l0.length) = true := by first | simpa using c20 | (simp at c20 ⊢; omega)
              clear c20
              (first | rw [c20b0] | (simp only [i64_w, i32_w]; rw [c20b0]) | skip)
              have H' := Aside0.mk H
              clear H
              obtain ⟨Ao21, co21, eo21⟩ := Kd.N_slice HO160.out
              subst eo21
              obtain ⟨Ao22, co22, eo22⟩ := Kd.N_slice HO166.out
              subst eo22
              go_wp2
              go_meet
              case rel => exact ⟨_, (decide ((t164.length : Int) < (t158.length : Int))), (by first | rfl | (simp; done) | (simp [*]; done)), H', ⟨by have := HJ4.out; first | omega | exact Nat.le_refl _⟩, ⟨by (with_reducible repeat (first | apply Kd.N_alloc | apply Kd.N_drewN | apply Kd.N_drew)); exact Kd.N_mono HO160.out (fun _ hk => hk.2)⟩, ⟨by (with_reducible repeat (first | apply Kd.N_alloc | apply Kd.N_drewN | apply Kd.N_drew)); exact Kd.N_mono HO166.out (fun _ hk => hk.1)⟩, ⟨by repeat (first | (with_reducible first | exact HB.out | apply below_alloc | apply pw_below_drewN | apply below_drew1) | exact HB.out)⟩⟩
            · rw [if_neg c20] at H
              have c20b0 : ((t158.length : Int) == (l0.length : Int)) = false := beq_eq_false_iff_ne.mpr c20
              have c20b1 : ((t158.length : Int) != (l0.length : Int)) = true := bne_iff_ne.mpr c20
              have c20b2 : (t158.length == l0.length) = false := by first | simpa using c20 | (simp at c20 ⊢; omega)
              (first | rw [c20b0] | (simp only [i64_w, i32_w]; rw [c20b0]) | skip)
              have H' := Aside0.mk H
              clear H
              obtain ⟨Ao23, co23, eo23⟩ := Kd.N_slice HO160.out
              subst eo23
              go_wp2
              go_meet
              case rel => exact ⟨_, (true), (by first | rfl | (simp; done) | (simp [*]; done)), H', ⟨by have := HJ4.out; first | omega | exact Nat.le_refl _⟩, ⟨by (with_reducible repeat (first | apply Kd.N_alloc | apply Kd.N_drewN | apply Kd.N_drew)); exact Kd.N_mono HO160.out (fun _ hk => hk.2)⟩, ⟨by (with_reducible repeat (first | apply Kd.N_alloc | apply Kd.N_drewN | apply Kd.N_drew)); exact Kd.N_mono HO166.out (fun _ hk => hk.1)⟩, ⟨by repeat (first | (with_reducible first | exact HB.out | apply below_alloc | apply pw_below_drewN | apply below_drew1) | exact HB.out)⟩⟩
          case rest =>
            clear HC15
            try clear c1
            try clear c2
            try clear p2
            try clear c3
            try clear c4
            try clear c8
            try clear c9
            try clear c11
            try clear c12
            try clear c13
            try clear c14
            try clear c15
            try clear c20
            try clear c20b0
            try clear c20b1
            try clear c20b2
            try clear p2
            obtain ⟨kq, x41_14, rfl, HA, HJ14, HO_5, HO_6, HB⟩ := hcut
            cases kq with
            | zero => exact absurd HA.out (by simp [laws_FnMarkMany.j1])
            | succ kj14 =>
              have H := HA.out
              clear HA
              simp only [laws_FnMarkMany.j1] at H
              by_cases c24 : x41_14 = true
              · subst c24
                have H1 : (some false) = some r := by rw [if_pos rfl] at H; exact H
                exact absurd (H1.trans (congrArg some hrt.out)) (by simp)
              · replace c24 := Bool.eq_false_iff.mpr c24
                subst c24
                have H1 : (if 0 ≤ (wrap64 ((t158.length : Int) - 1)) then (if (wrap64 ((t158.length : Int) - 1)) < (t158.length : Int) then (if 0 ≤ (wrap64 ((t164.length : Int) - 1)) then (if (wrap64 ((t164.length : Int) - 1)) < (t164.length : Int) then (if ((rd_T34 t158 (wrap64 ((t158.length : Int) - 1))).f0) = ((rd_T34 t164 (wrap64 ((t164.length : Int) - 1))).f0) then (if ((rd_T34 t158 (wrap64 ((t158.length : Int) - 1))).f1) = ((rd_T34 t164 (wrap64 ((t164.length : Int) - 1))).f1) then (if ((rd_T34 t158 (wrap64 ((t158.length : Int) - 1))).f2) = ((rd_T34 t164 (wrap64 ((t164.length : Int) - 1))).f2) then ((laws_sameBools.f kj14 ((rd_T34 t158 (wrap64 ((t158.length : Int) - 1))).f4) ((rd_T34 t164 (wrap64 ((t164.length : Int) - 1))).f4)).bind fun t171 => (if t171 = true then ((laws_marksWork.f).bind fun t172 => (some t172)) else (some false))) else (some false)) else (some false)) else (some false)) else (none)) else (none)) else (none)) else (none)) = some r := by rw [if_neg (show ¬ (false = true) by decide)] at H; exact H
                clear H
                have H := H1
                clear H1
                obtain ⟨ji25, hji25⟩ : ∃ j_ : Int, (wrap64 ((t158.length : Int) - 1)) = j_ := ⟨_, rfl⟩
                replace H : (if 0 ≤ (ji25) then (if (ji25) < (t158.length : Int) then (if 0 ≤ (wrap64 ((t164.length : Int) - 1)) then (if (wrap64 ((t164.length : Int) - 1)) < (t164.length : Int) then (if ((rd_T34 t158 (ji25)).f0) = ((rd_T34 t164 (wrap64 ((t164.length : Int) - 1))).f0) then (if ((rd_T34 t158 (ji25)).f1) = ((rd_T34 t164 (wrap64 ((t164.length : Int) - 1))).f1) then (if ((rd_T34 t158 (ji25)).f2) = ((rd_T34 t164 (wrap64 ((t164.length : Int) - 1))).f2) then ((laws_sameBools.f kj14 ((rd_T34 t158 (ji25)).f4) ((rd_T34 t164 (wrap64 ((t164.length : Int) - 1))).f4)).bind fun t171 => (if t171 = true then ((laws_marksWork.f).bind fun t172 => (some t172)) else (some false))) else (some false)) else (some false)) else (some false)) else (none)) else (none)) else (none)) else (none)) = some r := by first | (rw [hji25] at H; exact H) | (simp only [hji25] at H ⊢; exact H)
                have hji25w : (IntKind.i64.wrap ((t158.length : Int) - 1)) = ji25 := (i64_w _).trans hji25
                by_cases c26 : 0 ≤ (ji25)
                · rw [if_pos c26] at H
                  have c26b0 : decide (0 ≤ (ji25)) = true := decide_eq_true c26
                  clear c26
                  by_cases c27 : (ji25) < (t158.length : Int)
                  · rw [if_pos c27] at H
                    have c27b0 : decide ((ji25) < (t158.length : Int)) = true := decide_eq_true c27
                    clear c27
                    obtain ⟨ji28, hji28⟩ : ∃ j_ : Int, (wrap64 ((t164.length : Int) - 1)) = j_ := ⟨_, rfl⟩
                    replace H : (if 0 ≤ (ji28) then (if (ji28) < (t164.length : Int) then (if ((rd_T34 t158 (ji25)).f0) = ((rd_T34 t164 (ji28)).f0) then (if ((rd_T34 t158 (ji25)).f1) = ((rd_T34 t164 (ji28)).f1) then (if ((rd_T34 t158 (ji25)).f2) = ((rd_T34 t164 (ji28)).f2) then ((laws_sameBools.f kj14 ((rd_T34 t158 (ji25)).f4) ((rd_T34 t164 (ji28)).f4)).bind fun t171 => (if t171 = true then ((laws_marksWork.f).bind fun t172 => (some t172)) else (some false))) else (some false)) else (some false)) else (some false)) else (none)) else (none)) = some r := by first | (rw [hji28] at H; exact H) | (simp only [hji28] at H ⊢; exact H)
                    have hji28w : (IntKind.i64.wrap ((t164.length : Int) - 1)) = ji28 := (i64_w _).trans hji28
                    by_cases c29 : 0 ≤ (ji28)
                    · rw [if_pos c29] at H
                      have c29b0 : decide (0 ≤ (ji28)) = true := decide_eq_true c29
                      clear c29
                      by_cases c30 : (ji28) < (t164.length : Int)
                      · rw [if_pos c30] at H
                        have c30b0 : decide ((ji28) < (t164.length : Int)) = true := decide_eq_true c30
                        clear c30
                        by_cases c31 : ((rd_T34 t158 (ji25)).f0) = ((rd_T34 t164 (ji28)).f0)
                        · rw [if_pos c31] at H
                          have c31b0 : (((rd_T34 t158 (ji25)).f0) == ((rd_T34 t164 (ji28)).f0)) = true := beq_iff_eq.mpr c31
                          have c31b1 : (((rd_T34 t158 (ji25)).f0) != ((rd_T34 t164 (ji28)).f0)) = false := bne_eq_false_iff_eq.mpr c31
                          clear c31
                          by_cases c32 : ((rd_T34 t158 (ji25)).f1) = ((rd_T34 t164 (ji28)).f1)
                          · rw [if_pos c32] at H
                            have c32b0 : (((rd_T34 t158 (ji25)).f1) == ((rd_T34 t164 (ji28)).f1)) = true := beq_iff_eq.mpr c32
                            have c32b1 : (((rd_T34 t158 (ji25)).f1) != ((rd_T34 t164 (ji28)).f1)) = false := bne_eq_false_iff_eq.mpr c32
                            clear c32
                            by_cases c33 : ((rd_T34 t158 (ji25)).f2) = ((rd_T34 t164 (ji28)).f2)
                            · rw [if_pos c33] at H
                              have c33b0 : (((rd_T34 t158 (ji25)).f2) == ((rd_T34 t164 (ji28)).f2)) = true := beq_iff_eq.mpr c33
                              have c33b1 : (((rd_T34 t158 (ji25)).f2) != ((rd_T34 t164 (ji28)).f2)) = false := bne_eq_false_iff_eq.mpr c33
                              clear c33
                              replace H := Option.bind_eq_some_iff.mp H
                              obtain ⟨t171, A340, H⟩ := H
                              replace H : (if t171 = true then ((laws_marksWork.f).bind fun t172 => (some t172)) else (some false)) = some r := H
                              have A34 := Aside0.mk A340
                              clear A340
                              by_cases c35 : t171 = true
                              · subst c35
                                have H1 : ((laws_marksWork.f).bind fun t172 => (some t172)) = some r := by rw [if_pos rfl] at H; exact H
                                clear H
                                have H := H1
                                clear H1
                                replace H := Option.bind_eq_some_iff.mp H
                                obtain ⟨t172, A360, H⟩ := H
                                replace H : (some t172) = some r := H
                                have A36 := Aside0.mk A360
                                clear A360
                                obtain rfl := Option.some.inj H
                                try go_wp2
                                have n0_ := Aside0.mk (Kd.N_drew HO_5.out)
                                have n1_ := Aside0.mk (Kd.N_drew HO_6.out)
                                have n2_ := Aside0.mk (below_drew1 HB.out)
                                clear HO_5
                                clear HO_6
                                clear HB
                                have HO_5 := n0_
                                have HO_6 := n1_
                                have HB := n2_
                                clear n0_ n1_ n2_
                                obtain ⟨Ao38, co38, eo38⟩ := Kd.N_slice HO_5.out
                                (first | subst eo38 | (injection eo38 with f1_ f2_ f3_; have f4_ := f1_.symm; have f5_ := f3_.symm; clear f1_ f2_ f3_; subst f4_; subst f5_))
                                have p167 : 0 ≤ ((ji25) : Int) := of_decide_eq_true (by first | (with_reducible assumption) | assumption)
                                have q167 : (ji25) < (t158.length : Int) := of_decide_eq_true (by first | (with_reducible assumption) | assumption)
                                obtain ⟨ad167, A167_4, c167_4, e167, hx167_0, hx167_1, hx167_2, hx167_3, hx167_4, hl167_4, hi167_4⟩ := at_T34 (Kd.N_reads' HO_5.out).2.2 (ji25) p167 q167
                                cases e167
                                obtain ⟨ce167, hce167, hMe167, hcc167⟩ := Kd.N_get HO_5.out z34 (ji25) p167 (by first | exact q167 | exact of_decide_eq_true (by first | (with_reducible assumption) | assumption) | (have e_ := (Kd.N_reads' HO_5.out).1; omega))
                                obtain ⟨ua167_4, uc167_4, rfl, ul167_4, ge167_4⟩ := k34_openF hMe167
                                have hv167_4 := hcc167 4 _ rfl
                                rw [add_field _ _ 4 (by omega)] at hv167_4
                                replace hv167_4 := Option.some.inj (hv167_4.symm.trans hx167_4)
                                injection hv167_4 with hva_ hvn_ hvc_
                                rw [hva_] at ge167_4
                                rw [hvc_] at ul167_4
                                have HL167_4 := Aside0.mk (show Kd.V Kd.bool 4 _ w.heap.size _ _ ((rd_T34 t158 (ji25)).f4) from Kd.V_mk ul167_4 ge167_4)
                                clear hva_ hvn_ hvc_ ge167_4 ul167_4
                                clear hcc167 hce167
                                have HR167_4 := Aside0.mk hi167_4
                                have HC167_4 := Aside0.mk hl167_4
                                clear hi167_4 hl167_4
                                replace p167 := eq_true p167
                                replace q167 := eq_true q167
                                obtain ⟨Ao39, co39, eo39⟩ := Kd.N_slice HO_6.out
                                (first | subst eo39 | (injection eo39 with f1_ f2_ f3_; have f4_ := f1_.symm; have f5_ := f3_.symm; clear f1_ f2_ f3_; subst f4_; subst f5_))
                                have p168 : 0 ≤ ((ji28) : Int) := of_decide_eq_true (by first | (with_reducible assumption) | assumption)
                                have q168 : (ji28) < (t164.length : Int) := of_decide_eq_true (by first | (with_reducible assumption) | assumption)
                                obtain ⟨ad168, A168_4, c168_4, e168, hx168_0, hx168_1, hx168_2, hx168_3, hx168_4, hl168_4, hi168_4⟩ := at_T34 (Kd.N_reads' HO_6.out).2.2 (ji28) p168 q168
                                cases e168
                                obtain ⟨ce168, hce168, hMe168, hcc168⟩ := Kd.N_get HO_6.out z34 (ji28) p168 (by first | exact q168 | exact of_decide_eq_true (by first | (with_reducible assumption) | assumption) | (have e_ := (Kd.N_reads' HO_6.out).1; omega))
                                obtain ⟨ua168_4, uc168_4, rfl, ul168_4, ge168_4⟩ := k34_openF hMe168
                                have hv168_4 := hcc168 4 _ rfl
                                rw [add_field _ _ 4 (by omega)] at hv168_4
                                replace hv168_4 := Option.some.inj (hv168_4.symm.trans hx168_4)
                                injection hv168_4 with hva_ hvn_ hvc_
                                rw [hva_] at ge168_4
                                rw [hvc_] at ul168_4
                                have HL168_4 := Aside0.mk (show Kd.V Kd.bool 4 _ w.heap.size _ _ ((rd_T34 t164 (ji28)).f4) from Kd.V_mk ul168_4 ge168_4)
                                clear hva_ hvn_ hvc_ ge168_4 ul168_4
                                clear hcc168 hce168
                                have HR168_4 := Aside0.mk hi168_4
                                have HC168_4 := Aside0.mk hl168_4
                                clear hi168_4 hl168_4
                                replace p168 := eq_true p168
                                replace q168 := eq_true q168
                                refine start_ (n := 16) (S := fun w' => w'.cell? (ad167.add (((ji25)).toNat * 5)) = some (.int .i64 ((rd_T34 t158 (ji25)).f0)) ∧ w'.cell? ⟨(ad167.add (((ji25)).toNat * 5)).block, (ad167.add (((ji25)).toNat * 5)).off + 1, none⟩ = some (.int .i64 ((rd_T34 t158 (ji25)).f1)) ∧ w'.cell? ⟨(ad167.add (((ji25)).toNat * 5)).block, (ad167.add (((ji25)).toNat * 5)).off + 2, none⟩ = some (.int .i64 ((rd_T34 t158 (ji25)).f2)) ∧ w'.cell? ⟨(ad167.add (((ji25)).toNat * 5)).block, (ad167.add (((ji25)).toNat * 5)).off + 3, none⟩ = some (.int .i64 ((rd_T34 t158 (ji25)).f3)) ∧ w'.cell? ⟨(ad167.add (((ji25)).toNat * 5)).block, (ad167.add (((ji25)).toNat * 5)).off + 4, none⟩ = some (.slice A167_4 ((rd_T34 t158 (ji25)).f4).length c167_4) ∧ w'.cell? (ad168.add (((ji28)).toNat * 5)) = some (.int .i64 ((rd_T34 t164 (ji28)).f0)) ∧ w'.cell? ⟨(ad168.add (((ji28)).toNat * 5)).block, (ad168.add (((ji28)).toNat * 5)).off + 1, none⟩ = some (.int .i64 ((rd_T34 t164 (ji28)).f1)) ∧ w'.cell? ⟨(ad168.add (((ji28)).toNat * 5)).block, (ad168.add (((ji28)).toNat * 5)).off + 2, none⟩ = some (.int .i64 ((rd_T34 t164 (ji28)).f2)) ∧ w'.cell? ⟨(ad168.add (((ji28)).toNat * 5)).block, (ad168.add (((ji28)).toNat * 5)).off + 3, none⟩ = some (.int .i64 ((rd_T34 t164 (ji28)).f3)) ∧ w'.cell? ⟨(ad168.add (((ji28)).toNat * 5)).block, (ad168.add (((ji28)).toNat * 5)).off + 4, none⟩ = some (.slice A168_4 ((rd_T34 t164 (ji28)).f4).length c168_4)) (ds := []) #[false, false, false, false, false, false, false, false, false, false, false, false, false, false, false, false] (by kernel_rfl) rfl rfl ⟨hx167_0, hx167_1, hx167_2, hx167_3, hx167_4, hx168_0, hx168_1, hx168_2, hx168_3, hx168_4⟩ (fun hHeld => ?_); refine with_tabW laws_FnMarkMany.tab9 laws_FnMarkMany.bits9 (fun HT_ HW_ => ?_)
                                generalize wc.drew = w37 at HO_5 HO_6 HB HL167_4 HL168_4 HR167_4 HR168_4 hx167_0 hx167_1 hx167_2 hx167_3 hx167_4 hx168_0 hx168_1 hx168_2 hx168_3 hx168_4 hHeld ⊢
                                refine pure_ (i := 0) (N := some 42) (v := ?_) (a' := ?_) #[true, false, false, false, false, false, false, false, false, false, false, false, false, false, false, false] rfl rfl (any_of HT_.out (by kernel_rfl)) (fun _ _ _ h => h) (Or.inl ⟨by rfl, ?_⟩) ?_ ?_
                                rotate_left
                                · intro w'
                                  go_simp
                                  with_reducible rfl
                                rotate_left
                                · simp only [Act.put, List.setIfInBounds_toArray, List.set_cons_zero, List.set_cons_succ, i64_w, i32_w]
                                  rfl
                                refine pure_ (i := 1) (N := some 43) (v := ?_) (a' := ?_) #[true, true, false, false, false, false, false, false, false, false, false, false, false, false, false, false] rfl rfl (any_of HT_.out (by kernel_rfl)) (fun _ _ _ h => h) (Or.inl ⟨by rfl, ?_⟩) ?_ ?_
                                rotate_left
                                · intro w'
                                  go_simp
                                  with_reducible rfl
                                rotate_left
                                · simp only [Act.put, List.setIfInBounds_toArray, List.set_cons_zero, List.set_cons_succ, i64_w, i32_w]
                                  rfl
                                refine pure_ (i := 2) (N := some 44) (v := ?_) (a' := ?_) #[true, true, true, false, false, false, false, false, false, false, false, false, false, false, false, false] rfl rfl (any_of HT_.out (by kernel_rfl)) (fun _ _ _ h => h) (Or.inl ⟨by rfl, ?_⟩) ?_ ?_
                                rotate_left
                                · intro w'
                                  go_simp
                                  with_reducible rfl
                                rotate_left
                                · simp only [Act.put, List.setIfInBounds_toArray, List.set_cons_zero, List.set_cons_succ, i64_w, i32_w]
                                  rfl
                                refine pure_ (i := 3) (N := some 45) (v := ?_) (a' := ?_) #[true, true, true, true, false, false, false, false, false, false, false, false, false, false, false, false] rfl rfl (any_of HT_.out (by kernel_rfl)) (fun _ _ _ h => h) (Or.inl ⟨by rfl, ?_⟩) ?_ ?_
                                rotate_left
                                · intro w'
                                  go_simp
                                  with_reducible rfl
                                rotate_left
                                · simp only [Act.put, List.setIfInBounds_toArray, List.set_cons_zero, List.set_cons_succ, i64_w, i32_w]
                                  rfl
                                refine pure_ (i := 4) (N := some 46) (v := ?_) (a' := ?_) #[true, true, true, true, true, false, false, false, false, false, false, false, false, false, false, false] rfl rfl (any_of HT_.out (by kernel_rfl)) (fun _ _ _ h => h) (Or.inl ⟨by rfl, ?_⟩) ?_ ?_
                                rotate_left
                                · intro w'
                                  go_simp
                                  with_reducible rfl
                                rotate_left
                                · simp only [Act.put, List.setIfInBounds_toArray, List.set_cons_zero, List.set_cons_succ, i64_w, i32_w]
                                  rfl
                                refine pure_ (i := 6) (N := some 48) (v := ?_) (a' := ?_) #[true, true, true, true, true, false, true, false, false, false, false, false, false, false, false, false] rfl rfl (any_of HT_.out (by kernel_rfl)) (fun _ _ _ h => h) (Or.inl ⟨by rfl, ?_⟩) ?_ ?_
                                rotate_left
                                · intro w'
                                  go_simp
                                  with_reducible rfl
                                rotate_left
                                · simp only [Act.put, List.setIfInBounds_toArray, List.set_cons_zero, List.set_cons_succ, i64_w, i32_w]
                                  rfl
                                refine pure_ (i := 7) (N := some 49) (v := ?_) (a' := ?_) #[true, true, true, true, true, false, true, true, false, false, false, false, false, false, false, false] rfl rfl (any_of HT_.out (by kernel_rfl)) (fun _ _ _ h => h) (Or.inl ⟨by rfl, ?_⟩) ?_ ?_
                                rotate_left
                                · intro w'
                                  go_simp
                                  with_reducible rfl
                                rotate_left
                                · simp only [Act.put, List.setIfInBounds_toArray, List.set_cons_zero, List.set_cons_succ, i64_w, i32_w]
                                  rfl
                                refine pure_ (i := 8) (N := some 50) (v := ?_) (a' := ?_) #[true, true, true, true, true, false, true, true, true, false, false, false, false, false, false, false] rfl rfl (any_of HT_.out (by kernel_rfl)) (fun _ _ _ h => h) (Or.inl ⟨by rfl, ?_⟩) ?_ ?_
                                rotate_left
                                · intro w'
                                  go_simp
                                  with_reducible rfl
                                rotate_left
                                · simp only [Act.put, List.setIfInBounds_toArray, List.set_cons_zero, List.set_cons_succ, i64_w, i32_w]
                                  rfl
                                refine pure_ (i := 9) (N := some 51) (v := ?_) (a' := ?_) #[true, true, true, true, true, false, true, true, true, true, false, false, false, false, false, false] rfl rfl (any_of HT_.out (by kernel_rfl)) (fun _ _ _ h => h) (Or.inl ⟨by rfl, ?_⟩) ?_ ?_
                                rotate_left
                                · intro w'
                                  go_simp
                                  with_reducible rfl
                                rotate_left
                                · simp only [Act.put, List.setIfInBounds_toArray, List.set_cons_zero, List.set_cons_succ, i64_w, i32_w]
                                  rfl
                                refine pure_ (i := 10) (N := some 52) (v := ?_) (a' := ?_) #[true, true, true, true, true, false, true, true, true, true, true, false, false, false, false, false] rfl rfl (any_of HT_.out (by kernel_rfl)) (fun _ _ _ h => h) (Or.inl ⟨by rfl, ?_⟩) ?_ ?_
                                rotate_left
                                · intro w'
                                  go_simp
                                  with_reducible rfl
                                rotate_left
                                · simp only [Act.put, List.setIfInBounds_toArray, List.set_cons_zero, List.set_cons_succ, i64_w, i32_w]
                                  rfl
                                refine take_ (i := 5) (N := some 47) (v := ?_) (a' := ?_) #[true, true, true, true, true, true, true, true, true, true, true, false, false, false, false, false] rfl rfl (take_ofW HT_.out HW_.out (by kernel_rfl)) (fun _ _ _ h => h) (Or.inl ⟨by rfl, ?_⟩) hHeld ?_ ?_
                                rotate_left
                                · rintro w' ⟨s0, s1, s2, s3, s4, s5, s6, s7, s8, s9⟩
                                  go_simp
                                  with_reducible rfl
                                rotate_left
                                · simp only [Act.put, List.setIfInBounds_toArray, List.set_cons_zero, List.set_cons_succ, i64_w, i32_w]
                                  rfl
                                refine take_ (i := 11) (N := some 53) (v := ?_) (a' := ?_) #[true, true, true, true, true, true, true, true, true, true, true, true, false, false, false, false] rfl rfl (take_ofW HT_.out HW_.out (by kernel_rfl)) (fun _ _ _ h => h) (Or.inl ⟨by rfl, ?_⟩) hHeld ?_ ?_
                                rotate_left
                                · rintro w' ⟨s0, s1, s2, s3, s4, s5, s6, s7, s8, s9⟩
                                  go_simp
                                  with_reducible rfl
                                rotate_left
                                · simp only [Act.put, List.setIfInBounds_toArray, List.set_cons_zero, List.set_cons_succ, i64_w, i32_w]
                                  rfl
                                refine join_ (σ := Nat × Nat) 2 #[true, true, true, true, true, true, true, true, true, true, true, true, true, true, false, false] (fun s_ => [(7, .pointer (some ⟨s_.1, 0, none⟩)), (8, .pointer (some ⟨s_.2, 0, none⟩))]) (fun s_ w' => (w'.cell? (ad167.add (((ji25)).toNat * 5)) = some (.int .i64 ((rd_T34 t158 (ji25)).f0)) ∧ w'.cell? ⟨(ad167.add (((ji25)).toNat * 5)).block, (ad167.add (((ji25)).toNat * 5)).off + 1, none⟩ = some (.int .i64 ((rd_T34 t158 (ji25)).f1)) ∧ w'.cell? ⟨(ad167.add (((ji25)).toNat * 5)).block, (ad167.add (((ji25)).toNat * 5)).off + 2, none⟩ = some (.int .i64 ((rd_T34 t158 (ji25)).f2)) ∧ w'.cell? ⟨(ad167.add (((ji25)).toNat * 5)).block, (ad167.add (((ji25)).toNat * 5)).off + 3, none⟩ = some (.int .i64 ((rd_T34 t158 (ji25)).f3)) ∧ w'.cell? ⟨(ad167.add (((ji25)).toNat * 5)).block, (ad167.add (((ji25)).toNat * 5)).off + 4, none⟩ = some (.slice A167_4 ((rd_T34 t158 (ji25)).f4).length c167_4) ∧ w'.cell? (ad168.add (((ji28)).toNat * 5)) = some (.int .i64 ((rd_T34 t164 (ji28)).f0)) ∧ w'.cell? ⟨(ad168.add (((ji28)).toNat * 5)).block, (ad168.add (((ji28)).toNat * 5)).off + 1, none⟩ = some (.int .i64 ((rd_T34 t164 (ji28)).f1)) ∧ w'.cell? ⟨(ad168.add (((ji28)).toNat * 5)).block, (ad168.add (((ji28)).toNat * 5)).off + 2, none⟩ = some (.int .i64 ((rd_T34 t164 (ji28)).f2)) ∧ w'.cell? ⟨(ad168.add (((ji28)).toNat * 5)).block, (ad168.add (((ji28)).toNat * 5)).off + 3, none⟩ = some (.int .i64 ((rd_T34 t164 (ji28)).f3)) ∧ w'.cell? ⟨(ad168.add (((ji28)).toNat * 5)).block, (ad168.add (((ji28)).toNat * 5)).off + 4, none⟩ = some (.slice A168_4 ((rd_T34 t164 (ji28)).f4).length c168_4)) ∧ (Kd.V Kd.bool 4 w' w.heap.size (fun k_ => some k_ ≠ (.slice (some ad167) t158.length co38 : Value).ownBlock ∧ some k_ ≠ (.slice (some ad168) t164.length co39 : Value).ownBlock ∧ k_ ≠ s_.1 ∧ k_ ≠ s_.2) (.slice A167_4 ((rd_T34 t158 (ji25)).f4).length c167_4) ((rd_T34 t158 (ji25)).f4)) ∧ (Kd.V Kd.bool 4 w' w.heap.size (fun k_ => some k_ ≠ (.slice (some ad167) t158.length co38 : Value).ownBlock ∧ some k_ ≠ (.slice (some ad168) t164.length co39 : Value).ownBlock ∧ k_ ≠ s_.1 ∧ k_ ≠ s_.2) (.slice A168_4 ((rd_T34 t164 (ji28)).f4).length c168_4) ((rd_T34 t164 (ji28)).f4)) ∧ (Kd.N k34 34 w' w.heap.size (fun k_ => some k_ ≠ (.slice (some ad168) t164.length co39 : Value).ownBlock ∧ k_ ≠ s_.1 ∧ k_ ≠ s_.2) (.slice (some ad167) t158.length co38) t158) ∧ (Kd.N k34 34 w' w.heap.size (fun k_ => some k_ ≠ (.slice (some ad167) t158.length co38 : Value).ownBlock ∧ k_ ≠ s_.1 ∧ k_ ≠ s_.2) (.slice (some ad168) t164.length co39) t164) ∧ (w'.heap[s_.1]? = some (.cells #[.int .i64 0, .int .i64 0, .int .i64 0, .int .i64 0, .slice none 0 0] 34 (0, 0))) ∧ (w'.heap[s_.2]? = some (.cells #[.int .i64 0, .int .i64 0, .int .i64 0, .int .i64 0, .slice none 0 0] 34 (0, 0))) ∧ (w.heap.size ≤ s_.1) ∧ (w.heap.size ≤ s_.1) ∧ (s_.2 ≠ s_.1) ∧ (s_.1 ≠ s_.2) ∧ (w.heap.size ≤ s_.2) ∧ (w.heap.size ≤ s_.2) ∧ (Below w.heap.size w w')) ?_ ?_
                                rotate_left
                                · intro hCont
                                  refine two_ (i := 12) (j := 13) (Ni := some 7) (Nj := some 8) #[true, true, true, true, true, true, true, true, true, true, true, true, true, false, false, false] #[true, true, true, true, true, true, true, true, true, true, true, true, false, true, false, false] rfl rfl rfl rfl (two_of HT_.out (by kernel_rfl)) (by decide) (by decide) (fun K hK => ?_) (fun K hK => ?_)
                                  · skip
                                    refine box_step ?hg (N := 7) ?hd (cs := #[.int .i64 0, .int .i64 0, .int .i64 0, .int .i64 0, .slice none 0 0]) (t := 34) ?hr ?_; (case hd => rfl); (case hg => rfl); (case hr => first | (go_simp; done) | (go_simp; rfl))
                                    intro gb169 hg w40 hbox hb
                                    have HS0_ := (hb.cell (World.block_lt_of_cell? _ _ (hHeld.1))).trans (hHeld.1)
                                    have HS1_ := (hb.cell (World.block_lt_of_cell? _ _ (hHeld.2.1))).trans (hHeld.2.1)
                                    have HS2_ := (hb.cell (World.block_lt_of_cell? _ _ (hHeld.2.2.1))).trans (hHeld.2.2.1)
                                    have HS3_ := (hb.cell (World.block_lt_of_cell? _ _ (hHeld.2.2.2.1))).trans (hHeld.2.2.2.1)
                                    have HS4_ := (hb.cell (World.block_lt_of_cell? _ _ (hHeld.2.2.2.2.1))).trans (hHeld.2.2.2.2.1)
                                    have HS5_ := (hb.cell (World.block_lt_of_cell? _ _ (hHeld.2.2.2.2.2.1))).trans (hHeld.2.2.2.2.2.1)
                                    have HS6_ := (hb.cell (World.block_lt_of_cell? _ _ (hHeld.2.2.2.2.2.2.1))).trans (hHeld.2.2.2.2.2.2.1)
                                    have HS7_ := (hb.cell (World.block_lt_of_cell? _ _ (hHeld.2.2.2.2.2.2.2.1))).trans (hHeld.2.2.2.2.2.2.2.1)
                                    have HS8_ := (hb.cell (World.block_lt_of_cell? _ _ (hHeld.2.2.2.2.2.2.2.2.1))).trans (hHeld.2.2.2.2.2.2.2.2.1)
                                    have HS9_ := (hb.cell (World.block_lt_of_cell? _ _ (hHeld.2.2.2.2.2.2.2.2.2))).trans (hHeld.2.2.2.2.2.2.2.2.2)
                                    have n0_ := Aside0.mk (Kd.N_below (Kd.N_elderB (by (with_reducible repeat (first | apply Kd.N_alloc | apply Kd.N_drewN | apply Kd.N_drew)); exact HO_5.out) gb169 (Nat.le_of_eq hg.symm)) hb)
                                    have n1_ := Aside0.mk (Kd.N_below (Kd.N_elderB (by (with_reducible repeat (first | apply Kd.N_alloc | apply Kd.N_drewN | apply Kd.N_drew)); exact HO_6.out) gb169 (Nat.le_of_eq hg.symm)) hb)
                                    have n2_ := Aside0.mk (Kd.V_below (Kd.V_elderB (by (with_reducible repeat (first | apply Kd.V_alloc | apply Kd.V_drewN | apply Kd.V_drew)); exact HL167_4.out) gb169 (Nat.le_of_eq hg.symm)) hb)
                                    have n3_ := Aside0.mk (Kd.V_below (Kd.V_elderB (by (with_reducible repeat (first | apply Kd.V_alloc | apply Kd.V_drewN | apply Kd.V_drew)); exact HL168_4.out) gb169 (Nat.le_of_eq hg.symm)) hb)
                                    have n4_ := Aside0.mk (Kd.C_below (by repeat (first | (with_reducible exact HR167_4.out) | (with_reducible refine Kd.C_alloc ?_ _) | (with_reducible refine Kd.C_drewN ?_ _) | (with_reducible refine Kd.C_drew ?_) | exact HR167_4.out)) hb)
                                    have n5_ := Aside0.mk (Kd.C_below (by repeat (first | (with_reducible exact HR168_4.out) | (with_reducible refine Kd.C_alloc ?_ _) | (with_reducible refine Kd.C_drewN ?_ _) | (with_reducible refine Kd.C_drew ?_) | exact HR168_4.out)) hb)
                                    have n6_ := Aside0.mk (below_step (by repeat (first | (with_reducible first | exact HB.out | apply below_alloc | apply pw_below_drewN | apply below_drew1) | exact HB.out)) hb)
                                    have n7_ := Aside0.mk (hbox)
                                    have n8_ := Aside0.mk ((by rw [hg]; exact (below_size (by repeat (first | (with_reducible first | exact HB.out | apply below_alloc | apply pw_below_drewN | apply below_drew1) | exact HB.out))) : w.heap.size ≤ gb169))
                                    have n9_ := Aside0.mk ((by rw [hg]; exact (below_size (by repeat (first | (with_reducible first | exact HB.out | apply below_alloc | apply pw_below_drewN | apply below_drew1) | exact HB.out))) : w.heap.size ≤ gb169))
                                    clear HO_5
                                    clear HO_6
                                    clear HL167_4
                                    clear HL168_4
                                    clear HR167_4
                                    clear HR168_4
                                    clear HB
                                    have HO_5 := n0_
                                    have HO_6 := n1_
                                    have HL167_4 := n2_
                                    have HL168_4 := n3_
                                    have HR167_4 := n4_
                                    have HR168_4 := n5_
                                    have HB := n6_
                                    have BK169 := n7_
                                    have GW169 := n8_
                                    have GE169 := n9_
                                    clear n0_ n1_ n2_ n3_ n4_ n5_ n6_ n7_ n8_ n9_
                                    clear hb hbox hg
                                    refine hK.out _ _ ⟨HS0_, HS1_, HS2_, HS3_, HS4_, HS5_, HS6_, HS7_, HS8_, HS9_⟩ (fun hHeld => ?_)
                                    clear hK K
                                    refine norm_ (a' := ?_) ?_ ?_
                                    rotate_left
                                    · show Act.put _ (some 7) _ = _
                                      simp only [Act.put, List.setIfInBounds_toArray, List.set_cons_zero, List.set_cons_succ, i64_w, i32_w]
                                      rfl
                                    refine one_ (i := 13) (N := some 8) #[true, true, true, true, true, true, true, true, true, true, true, true, true, true, false, false] rfl rfl (one_of HT_.out (by kernel_rfl)) (by decide) (fun K hK => ?_)
                                    refine box_step ?hg (N := 8) ?hd (cs := #[.int .i64 0, .int .i64 0, .int .i64 0, .int .i64 0, .slice none 0 0]) (t := 34) ?hr ?_; (case hd => rfl); (case hg => rfl); (case hr => first | (go_simp; done) | (go_simp; rfl))
                                    intro gb170 hg w41 hbox hb
                                    have HS0_ := (hb.cell (World.block_lt_of_cell? _ _ (hHeld.1))).trans (hHeld.1)
                                    have HS1_ := (hb.cell (World.block_lt_of_cell? _ _ (hHeld.2.1))).trans (hHeld.2.1)
                                    have HS2_ := (hb.cell (World.block_lt_of_cell? _ _ (hHeld.2.2.1))).trans (hHeld.2.2.1)
                                    have HS3_ := (hb.cell (World.block_lt_of_cell? _ _ (hHeld.2.2.2.1))).trans (hHeld.2.2.2.1)
                                    have HS4_ := (hb.cell (World.block_lt_of_cell? _ _ (hHeld.2.2.2.2.1))).trans (hHeld.2.2.2.2.1)
                                    have HS5_ := (hb.cell (World.block_lt_of_cell? _ _ (hHeld.2.2.2.2.2.1))).trans (hHeld.2.2.2.2.2.1)
                                    have HS6_ := (hb.cell (World.block_lt_of_cell? _ _ (hHeld.2.2.2.2.2.2.1))).trans (hHeld.2.2.2.2.2.2.1)
                                    have HS7_ := (hb.cell (World.block_lt_of_cell? _ _ (hHeld.2.2.2.2.2.2.2.1))).trans (hHeld.2.2.2.2.2.2.2.1)
                                    have HS8_ := (hb.cell (World.block_lt_of_cell? _ _ (hHeld.2.2.2.2.2.2.2.2.1))).trans (hHeld.2.2.2.2.2.2.2.2.1)
                                    have HS9_ := (hb.cell (World.block_lt_of_cell? _ _ (hHeld.2.2.2.2.2.2.2.2.2))).trans (hHeld.2.2.2.2.2.2.2.2.2)
                                    have n0_ := Aside0.mk (Kd.N_below (Kd.N_elderB (by (with_reducible repeat (first | apply Kd.N_alloc | apply Kd.N_drewN | apply Kd.N_drew)); exact HO_5.out) gb170 (Nat.le_of_eq hg.symm)) hb)
                                    have n1_ := Aside0.mk (Kd.N_below (Kd.N_elderB (by (with_reducible repeat (first | apply Kd.N_alloc | apply Kd.N_drewN | apply Kd.N_drew)); exact HO_6.out) gb170 (Nat.le_of_eq hg.symm)) hb)
                                    have n2_ := Aside0.mk (Kd.V_below (Kd.V_elderB (by (with_reducible repeat (first | apply Kd.V_alloc | apply Kd.V_drewN | apply Kd.V_drew)); exact HL167_4.out) gb170 (Nat.le_of_eq hg.symm)) hb)
                                    have n3_ := Aside0.mk (Kd.V_below (Kd.V_elderB (by (with_reducible repeat (first | apply Kd.V_alloc | apply Kd.V_drewN | apply Kd.V_drew)); exact HL168_4.out) gb170 (Nat.le_of_eq hg.symm)) hb)
                                    have n4_ := Aside0.mk (Kd.C_below (by repeat (first | (with_reducible exact HR167_4.out) | (with_reducible refine Kd.C_alloc ?_ _) | (with_reducible refine Kd.C_drewN ?_ _) | (with_reducible refine Kd.C_drew ?_) | exact HR167_4.out)) hb)
                                    have n5_ := Aside0.mk (Kd.C_below (by repeat (first | (with_reducible exact HR168_4.out) | (with_reducible refine Kd.C_alloc ?_ _) | (with_reducible refine Kd.C_drewN ?_ _) | (with_reducible refine Kd.C_drew ?_) | exact HR168_4.out)) hb)
                                    have n6_ := Aside0.mk (blk_below (g := gb169) (o := .cells #[.int .i64 0, .int .i64 0, .int .i64 0, .int .i64 0, .slice none 0 0] 34 (0, 0)) (by (with_reducible repeat (first | refine blk_drewN ?_ _ | refine blk_drew ?_ | refine blk_alloc ?_ _)); exact BK169.out) hb)
                                    have n7_ := Aside0.mk (below_step (by repeat (first | (with_reducible first | exact HB.out | apply below_alloc | apply pw_below_drewN | apply below_drew1 | refine below_set ?_ GE169.out) | exact HB.out)) hb)
                                    have n8_ := Aside0.mk (hbox)
                                    have n9_ := Aside0.mk ((by rw [hg]; exact (below_size (by repeat (first | (with_reducible first | exact HB.out | apply below_alloc | apply pw_below_drewN | apply below_drew1 | refine below_set ?_ GE169.out) | exact HB.out))) : w.heap.size ≤ gb170))
                                    have n10_ := Aside0.mk ((by rw [hg]; exact (below_size (by repeat (first | (with_reducible first | exact HB.out | apply below_alloc | apply pw_below_drewN | apply below_drew1 | refine below_set ?_ GE169.out) | exact HB.out))) : w.heap.size ≤ gb170))
                                    have n11_ := Aside0.mk ((by rw [hg]; exact Nat.ne_of_lt (blk_lt (g := gb169) (o := .cells #[.int .i64 0, .int .i64 0, .int .i64 0, .int .i64 0, .slice none 0 0] 34 (0, 0)) (by (with_reducible repeat (first | refine blk_drewN ?_ _ | refine blk_drew ?_ | refine blk_alloc ?_ _)); exact BK169.out)) : gb169 ≠ gb170))
                                    have n12_ := Aside0.mk ((by rw [hg]; exact Nat.ne_of_gt (blk_lt (g := gb169) (o := .cells #[.int .i64 0, .int .i64 0, .int .i64 0, .int .i64 0, .slice none 0 0] 34 (0, 0)) (by (with_reducible repeat (first | refine blk_drewN ?_ _ | refine blk_drew ?_ | refine blk_alloc ?_ _)); exact BK169.out)) : gb170 ≠ gb169))
                                    clear HO_5
                                    clear HO_6
                                    clear HL167_4
                                    clear HL168_4
                                    clear HR167_4
                                    clear HR168_4
                                    clear BK169
                                    clear HB
                                    have HO_5 := n0_
                                    have HO_6 := n1_
                                    have HL167_4 := n2_
                                    have HL168_4 := n3_
                                    have HR167_4 := n4_
                                    have HR168_4 := n5_
                                    have BK169 := n6_
                                    have HB := n7_
                                    have BK170 := n8_
                                    have GW170 := n9_
                                    have GE170 := n10_
                                    have NB169_170 := n11_
                                    have NB170_169 := n12_
                                    clear n0_ n1_ n2_ n3_ n4_ n5_ n6_ n7_ n8_ n9_ n10_ n11_ n12_
                                    clear hb hbox hg
                                    refine hK.out _ _ ⟨HS0_, HS1_, HS2_, HS3_, HS4_, HS5_, HS6_, HS7_, HS8_, HS9_⟩ (fun hHeld => ?_)
                                    clear hK K
                                    refine norm_ (a' := ?_) ?_ ?_
                                    rotate_left
                                    · show Act.put _ (some 8) _ = _
                                      simp only [Act.put, List.setIfInBounds_toArray, List.set_cons_zero, List.set_cons_succ, i64_w, i32_w]
                                      rfl
                                    exact norm_ (by simp only [putAll, Act.put, List.setIfInBounds_toArray, List.set_cons_zero, List.set_cons_succ]) (hCont (gb169, gb170) _ ⟨hHeld, (by (with_reducible repeat (first | apply Kd.V_alloc | apply Kd.V_drewN | apply Kd.V_drew)); exact Kd.V_mono HL167_4.out (fun _ hk => ⟨hk.1.1.2, ⟨hk.1.1.1, ⟨hk.1.2, hk.2⟩⟩⟩)), (by (with_reducible repeat (first | apply Kd.V_alloc | apply Kd.V_drewN | apply Kd.V_drew)); exact Kd.V_mono HL168_4.out (fun _ hk => ⟨hk.1.1.1, ⟨hk.1.1.2, ⟨hk.1.2, hk.2⟩⟩⟩)), (by (with_reducible repeat (first | apply Kd.N_alloc | apply Kd.N_drewN | apply Kd.N_drew)); exact Kd.N_mono HO_5.out (fun _ hk => ⟨hk.1.1, ⟨hk.1.2, hk.2⟩⟩)), (by (with_reducible repeat (first | apply Kd.N_alloc | apply Kd.N_drewN | apply Kd.N_drew)); exact Kd.N_mono HO_6.out (fun _ hk => ⟨hk.1.1, ⟨hk.1.2, hk.2⟩⟩)), (by (with_reducible repeat (first | refine blk_drewN ?_ _ | refine blk_drew ?_ | refine blk_alloc ?_ _)); exact BK169.out), (by (with_reducible repeat (first | refine blk_drewN ?_ _ | refine blk_drew ?_ | refine blk_alloc ?_ _)); exact BK170.out), GW169.out, GE169.out, NB170_169.out, NB169_170.out, GW170.out, GE170.out, (by repeat (first | (with_reducible first | exact HB.out | apply below_alloc | apply pw_below_drewN | apply below_drew1 | refine below_set ?_ GE169.out | refine below_set ?_ GE170.out) | exact HB.out))⟩)
                                  · skip
                                    refine box_step ?hg (N := 8) ?hd (cs := #[.int .i64 0, .int .i64 0, .int .i64 0, .int .i64 0, .slice none 0 0]) (t := 34) ?hr ?_; (case hd => rfl); (case hg => rfl); (case hr => first | (go_simp; done) | (go_simp; rfl))
                                    intro gb170 hg w40 hbox hb
                                    have HS0_ := (hb.cell (World.block_lt_of_cell? _ _ (hHeld.1))).trans (hHeld.1)
                                    have HS1_ := (hb.cell (World.block_lt_of_cell? _ _ (hHeld.2.1))).trans (hHeld.2.1)
                                    have HS2_ := (hb.cell (World.block_lt_of_cell? _ _ (hHeld.2.2.1))).trans (hHeld.2.2.1)
                                    have HS3_ := (hb.cell (World.block_lt_of_cell? _ _ (hHeld.2.2.2.1))).trans (hHeld.2.2.2.1)
                                    have HS4_ := (hb.cell (World.block_lt_of_cell? _ _ (hHeld.2.2.2.2.1))).trans (hHeld.2.2.2.2.1)
                                    have HS5_ := (hb.cell (World.block_lt_of_cell? _ _ (hHeld.2.2.2.2.2.1))).trans (hHeld.2.2.2.2.2.1)
                                    have HS6_ := (hb.cell (World.block_lt_of_cell? _ _ (hHeld.2.2.2.2.2.2.1))).trans (hHeld.2.2.2.2.2.2.1)
                                    have HS7_ := (hb.cell (World.block_lt_of_cell? _ _ (hHeld.2.2.2.2.2.2.2.1))).trans (hHeld.2.2.2.2.2.2.2.1)
                                    have HS8_ := (hb.cell (World.block_lt_of_cell? _ _ (hHeld.2.2.2.2.2.2.2.2.1))).trans (hHeld.2.2.2.2.2.2.2.2.1)
                                    have HS9_ := (hb.cell (World.block_lt_of_cell? _ _ (hHeld.2.2.2.2.2.2.2.2.2))).trans (hHeld.2.2.2.2.2.2.2.2.2)
                                    have n0_ := Aside0.mk (Kd.N_below (Kd.N_elderB (by (with_reducible repeat (first | apply Kd.N_alloc | apply Kd.N_drewN | apply Kd.N_drew)); exact HO_5.out) gb170 (Nat.le_of_eq hg.symm)) hb)
                                    have n1_ := Aside0.mk (Kd.N_below (Kd.N_elderB (by (with_reducible repeat (first | apply Kd.N_alloc | apply Kd.N_drewN | apply Kd.N_drew)); exact HO_6.out) gb170 (Nat.le_of_eq hg.symm)) hb)
                                    have n2_ := Aside0.mk (Kd.V_below (Kd.V_elderB (by (with_reducible repeat (first | apply Kd.V_alloc | apply Kd.V_drewN | apply Kd.V_drew)); exact HL167_4.out) gb170 (Nat.le_of_eq hg.symm)) hb)
                                    have n3_ := Aside0.mk (Kd.V_below (Kd.V_elderB (by (with_reducible repeat (first | apply Kd.V_alloc | apply Kd.V_drewN | apply Kd.V_drew)); exact HL168_4.out) gb170 (Nat.le_of_eq hg.symm)) hb)
                                    have n4_ := Aside0.mk (Kd.C_below (by repeat (first | (with_reducible exact HR167_4.out) | (with_reducible refine Kd.C_alloc ?_ _) | (with_reducible refine Kd.C_drewN ?_ _) | (with_reducible refine Kd.C_drew ?_) | exact HR167_4.out)) hb)
                                    have n5_ := Aside0.mk (Kd.C_below (by repeat (first | (with_reducible exact HR168_4.out) | (with_reducible refine Kd.C_alloc ?_ _) | (with_reducible refine Kd.C_drewN ?_ _) | (with_reducible refine Kd.C_drew ?_) | exact HR168_4.out)) hb)
                                    have n6_ := Aside0.mk (below_step (by repeat (first | (with_reducible first | exact HB.out | apply below_alloc | apply pw_below_drewN | apply below_drew1) | exact HB.out)) hb)
                                    have n7_ := Aside0.mk (hbox)
                                    have n8_ := Aside0.mk ((by rw [hg]; exact (below_size (by repeat (first | (with_reducible first | exact HB.out | apply below_alloc | apply pw_below_drewN | apply below_drew1) | exact HB.out))) : w.heap.size ≤ gb170))
                                    have n9_ := Aside0.mk ((by rw [hg]; exact (below_size (by repeat (first | (with_reducible first | exact HB.out | apply below_alloc | apply pw_below_drewN | apply below_drew1) | exact HB.out))) : w.heap.size ≤ gb170))
                                    clear HO_5
                                    clear HO_6
                                    clear HL167_4
                                    clear HL168_4
                                    clear HR167_4
                                    clear HR168_4
                                    clear HB
                                    have HO_5 := n0_
                                    have HO_6 := n1_
                                    have HL167_4 := n2_
                                    have HL168_4 := n3_
                                    have HR167_4 := n4_
                                    have HR168_4 := n5_
                                    have HB := n6_
                                    have BK170 := n7_
                                    have GW170 := n8_
                                    have GE170 := n9_
                                    clear n0_ n1_ n2_ n3_ n4_ n5_ n6_ n7_ n8_ n9_
                                    clear hb hbox hg
                                    refine hK.out _ _ ⟨HS0_, HS1_, HS2_, HS3_, HS4_, HS5_, HS6_, HS7_, HS8_, HS9_⟩ (fun hHeld => ?_)
                                    clear hK K
                                    refine norm_ (a' := ?_) ?_ ?_
                                    rotate_left
                                    · show Act.put _ (some 8) _ = _
                                      simp only [Act.put, List.setIfInBounds_toArray, List.set_cons_zero, List.set_cons_succ, i64_w, i32_w]
                                      rfl
                                    refine one_ (i := 12) (N := some 7) #[true, true, true, true, true, true, true, true, true, true, true, true, true, true, false, false] rfl rfl (one_of HT_.out (by kernel_rfl)) (by decide) (fun K hK => ?_)
                                    refine box_step ?hg (N := 7) ?hd (cs := #[.int .i64 0, .int .i64 0, .int .i64 0, .int .i64 0, .slice none 0 0]) (t := 34) ?hr ?_; (case hd => rfl); (case hg => rfl); (case hr => first | (go_simp; done) | (go_simp; rfl))
                                    intro gb169 hg w41 hbox hb
                                    have HS0_ := (hb.cell (World.block_lt_of_cell? _ _ (hHeld.1))).trans (hHeld.1)
                                    have HS1_ := (hb.cell (World.block_lt_of_cell? _ _ (hHeld.2.1))).trans (hHeld.2.1)
                                    have HS2_ := (hb.cell (World.block_lt_of_cell? _ _ (hHeld.2.2.1))).trans (hHeld.2.2.1)
                                    have HS3_ := (hb.cell (World.block_lt_of_cell? _ _ (hHeld.2.2.2.1))).trans (hHeld.2.2.2.1)
                                    have HS4_ := (hb.cell (World.block_lt_of_cell? _ _ (hHeld.2.2.2.2.1))).trans (hHeld.2.2.2.2.1)
                                    have HS5_ := (hb.cell (World.block_lt_of_cell? _ _ (hHeld.2.2.2.2.2.1))).trans (hHeld.2.2.2.2.2.1)
                                    have HS6_ := (hb.cell (World.block_lt_of_cell? _ _ (hHeld.2.2.2.2.2.2.1))).trans (hHeld.2.2.2.2.2.2.1)
                                    have HS7_ := (hb.cell (World.block_lt_of_cell? _ _ (hHeld.2.2.2.2.2.2.2.1))).trans (hHeld.2.2.2.2.2.2.2.1)
                                    have HS8_ := (hb.cell (World.block_lt_of_cell? _ _ (hHeld.2.2.2.2.2.2.2.2.1))).trans (hHeld.2.2.2.2.2.2.2.2.1)
                                    have HS9_ := (hb.cell (World.block_lt_of_cell? _ _ (hHeld.2.2.2.2.2.2.2.2.2))).trans (hHeld.2.2.2.2.2.2.2.2.2)
                                    have n0_ := Aside0.mk (Kd.N_below (Kd.N_elderB (by (with_reducible repeat (first | apply Kd.N_alloc | apply Kd.N_drewN | apply Kd.N_drew)); exact HO_5.out) gb169 (Nat.le_of_eq hg.symm)) hb)
                                    have n1_ := Aside0.mk (Kd.N_below (Kd.N_elderB (by (with_reducible repeat (first | apply Kd.N_alloc | apply Kd.N_drewN | apply Kd.N_drew)); exact HO_6.out) gb169 (Nat.le_of_eq hg.symm)) hb)
                                    have n2_ := Aside0.mk (Kd.V_below (Kd.V_elderB (by (with_reducible repeat (first | apply Kd.V_alloc | apply Kd.V_drewN | apply Kd.V_drew)); exact HL167_4.out) gb169 (Nat.le_of_eq hg.symm)) hb)
                                    have n3_ := Aside0.mk (Kd.V_below (Kd.V_elderB (by (with_reducible repeat (first | apply Kd.V_alloc | apply Kd.V_drewN | apply Kd.V_drew)); exact HL168_4.out) gb169 (Nat.le_of_eq hg.symm)) hb)
                                    have n4_ := Aside0.mk (Kd.C_below (by repeat (first | (with_reducible exact HR167_4.out) | (with_reducible refine Kd.C_alloc ?_ _) | (with_reducible refine Kd.C_drewN ?_ _) | (with_reducible refine Kd.C_drew ?_) | exact HR167_4.out)) hb)
                                    have n5_ := Aside0.mk (Kd.C_below (by repeat (first | (with_reducible exact HR168_4.out) | (with_reducible refine Kd.C_alloc ?_ _) | (with_reducible refine Kd.C_drewN ?_ _) | (with_reducible refine Kd.C_drew ?_) | exact HR168_4.out)) hb)
                                    have n6_ := Aside0.mk (blk_below (g := gb170) (o := .cells #[.int .i64 0, .int .i64 0, .int .i64 0, .int .i64 0, .slice none 0 0] 34 (0, 0)) (by (with_reducible repeat (first | refine blk_drewN ?_ _ | refine blk_drew ?_ | refine blk_alloc ?_ _)); exact BK170.out) hb)
                                    have n7_ := Aside0.mk (below_step (by repeat (first | (with_reducible first | exact HB.out | apply below_alloc | apply pw_below_drewN | apply below_drew1 | refine below_set ?_ GE170.out) | exact HB.out)) hb)
                                    have n8_ := Aside0.mk (hbox)
                                    have n9_ := Aside0.mk ((by rw [hg]; exact (below_size (by repeat (first | (with_reducible first | exact HB.out | apply below_alloc | apply pw_below_drewN | apply below_drew1 | refine below_set ?_ GE170.out) | exact HB.out))) : w.heap.size ≤ gb169))
                                    have n10_ := Aside0.mk ((by rw [hg]; exact (below_size (by repeat (first | (with_reducible first | exact HB.out | apply below_alloc | apply pw_below_drewN | apply below_drew1 | refine below_set ?_ GE170.out) | exact HB.out))) : w.heap.size ≤ gb169))
                                    have n11_ := Aside0.mk ((by rw [hg]; exact Nat.ne_of_lt (blk_lt (g := gb170) (o := .cells #[.int .i64 0, .int .i64 0, .int .i64 0, .int .i64 0, .slice none 0 0] 34 (0, 0)) (by (with_reducible repeat (first | refine blk_drewN ?_ _ | refine blk_drew ?_ | refine blk_alloc ?_ _)); exact BK170.out)) : gb170 ≠ gb169))
                                    have n12_ := Aside0.mk ((by rw [hg]; exact Nat.ne_of_gt (blk_lt (g := gb170) (o := .cells #[.int .i64 0, .int .i64 0, .int .i64 0, .int .i64 0, .slice none 0 0] 34 (0, 0)) (by (with_reducible repeat (first | refine blk_drewN ?_ _ | refine blk_drew ?_ | refine blk_alloc ?_ _)); exact BK170.out)) : gb169 ≠ gb170))
                                    clear HO_5
                                    clear HO_6
                                    clear HL167_4
                                    clear HL168_4
                                    clear HR167_4
                                    clear HR168_4
                                    clear BK170
                                    clear HB
                                    have HO_5 := n0_
                                    have HO_6 := n1_
                                    have HL167_4 := n2_
                                    have HL168_4 := n3_
                                    have HR167_4 := n4_
                                    have HR168_4 := n5_
                                    have BK170 := n6_
                                    have HB := n7_
                                    have BK169 := n8_
                                    have GW169 := n9_
                                    have GE169 := n10_
                                    have NB170_169 := n11_
                                    have NB169_170 := n12_
                                    clear n0_ n1_ n2_ n3_ n4_ n5_ n6_ n7_ n8_ n9_ n10_ n11_ n12_
                                    clear hb hbox hg
                                    refine hK.out _ _ ⟨HS0_, HS1_, HS2_, HS3_, HS4_, HS5_, HS6_, HS7_, HS8_, HS9_⟩ (fun hHeld => ?_)
                                    clear hK K
                                    refine norm_ (a' := ?_) ?_ ?_
                                    rotate_left
                                    · show Act.put _ (some 7) _ = _
                                      simp only [Act.put, List.setIfInBounds_toArray, List.set_cons_zero, List.set_cons_succ, i64_w, i32_w]
                                      rfl
                                    exact norm_ (by simp only [putAll, Act.put, List.setIfInBounds_toArray, List.set_cons_zero, List.set_cons_succ]) (hCont (gb169, gb170) _ ⟨hHeld, (by (with_reducible repeat (first | apply Kd.V_alloc | apply Kd.V_drewN | apply Kd.V_drew)); exact Kd.V_mono HL167_4.out (fun _ hk => ⟨hk.1.1.2, ⟨hk.1.1.1, ⟨hk.2, hk.1.2⟩⟩⟩)), (by (with_reducible repeat (first | apply Kd.V_alloc | apply Kd.V_drewN | apply Kd.V_drew)); exact Kd.V_mono HL168_4.out (fun _ hk => ⟨hk.1.1.1, ⟨hk.1.1.2, ⟨hk.2, hk.1.2⟩⟩⟩)), (by (with_reducible repeat (first | apply Kd.N_alloc | apply Kd.N_drewN | apply Kd.N_drew)); exact Kd.N_mono HO_5.out (fun _ hk => ⟨hk.1.1, ⟨hk.2, hk.1.2⟩⟩)), (by (with_reducible repeat (first | apply Kd.N_alloc | apply Kd.N_drewN | apply Kd.N_drew)); exact Kd.N_mono HO_6.out (fun _ hk => ⟨hk.1.1, ⟨hk.2, hk.1.2⟩⟩)), (by (with_reducible repeat (first | refine blk_drewN ?_ _ | refine blk_drew ?_ | refine blk_alloc ?_ _)); exact BK169.out), (by (with_reducible repeat (first | refine blk_drewN ?_ _ | refine blk_drew ?_ | refine blk_alloc ?_ _)); exact BK170.out), GW169.out, GE169.out, NB170_169.out, NB169_170.out, GW170.out, GE170.out, (by repeat (first | (with_reducible first | exact HB.out | apply below_alloc | apply pw_below_drewN | apply below_drew1 | refine below_set ?_ GE170.out | refine below_set ?_ GE169.out) | exact HB.out))⟩)
                                rintro ⟨gb169, gb170⟩ w42 ⟨hS_, h0_, h1_, h2_, h3_, h4_, h5_, h6_, h7_, h8_, h9_, h10_, h11_, h12_⟩
                                have n0_ : Aside0 (Kd.V Kd.bool 4 w42 w.heap.size (fun k_ => some k_ ≠ (.slice (some ad167) t158.length co38 : Value).ownBlock ∧ some k_ ≠ (.slice (some ad168) t164.length co39 : Value).ownBlock ∧ k_ ≠ gb169 ∧ k_ ≠ gb170) (.slice A167_4 ((rd_T34 t158 (ji25)).f4).length c167_4) ((rd_T34 t158 (ji25)).f4)) := ⟨h0_⟩
                                have n1_ : Aside0 (Kd.V Kd.bool 4 w42 w.heap.size (fun k_ => some k_ ≠ (.slice (some ad167) t158.length co38 : Value).ownBlock ∧ some k_ ≠ (.slice (some ad168) t164.length co39 : Value).ownBlock ∧ k_ ≠ gb169 ∧ k_ ≠ gb170) (.slice A168_4 ((rd_T34 t164 (ji28)).f4).length c168_4) ((rd_T34 t164 (ji28)).f4)) := ⟨h1_⟩
                                have n2_ : Aside0 (Kd.N k34 34 w42 w.heap.size (fun k_ => some k_ ≠ (.slice (some ad168) t164.length co39 : Value).ownBlock ∧ k_ ≠ gb169 ∧ k_ ≠ gb170) (.slice (some ad167) t158.length co38) t158) := ⟨h2_⟩
                                have n3_ : Aside0 (Kd.N k34 34 w42 w.heap.size (fun k_ => some k_ ≠ (.slice (some ad167) t158.length co38 : Value).ownBlock ∧ k_ ≠ gb169 ∧ k_ ≠ gb170) (.slice (some ad168) t164.length co39) t164) := ⟨h3_⟩
                                have n4_ : Aside0 (w42.heap[gb169]? = some (.cells #[.int .i64 0, .int .i64 0, .int .i64 0, .int .i64 0, .slice none 0 0] 34 (0, 0))) := ⟨h4_⟩
                                have n5_ : Aside0 (w42.heap[gb170]? = some (.cells #[.int .i64 0, .int .i64 0, .int .i64 0, .int .i64 0, .slice none 0 0] 34 (0, 0))) := ⟨h5_⟩
                                have n6_ : Aside0 (w.heap.size ≤ gb169) := ⟨h6_⟩
                                have n7_ : Aside0 (w.heap.size ≤ gb169) := ⟨h7_⟩
                                have n8_ : Aside0 (gb170 ≠ gb169) := ⟨h8_⟩
                                have n9_ : Aside0 (gb169 ≠ gb170) := ⟨h9_⟩
                                have n10_ : Aside0 (w.heap.size ≤ gb170) := ⟨h10_⟩
                                have n11_ : Aside0 (w.heap.size ≤ gb170) := ⟨h11_⟩
                                have n12_ : Aside0 (Below w.heap.size w w42) := ⟨h12_⟩
                                clear HO_5
                                clear HO_6
                                clear HB
                                clear h0_ h1_ h2_ h3_ h4_ h5_ h6_ h7_ h8_ h9_ h10_ h11_ h12_
                                have HL167_4 := n0_
                                have HL168_4 := n1_
                                have HO_5 := n2_
                                have HO_6 := n3_
                                have BK169 := n4_
                                have BK170 := n5_
                                have GW169 := n6_
                                have GE169 := n7_
                                have NB170_169 := n8_
                                have NB169_170 := n9_
                                have GW170 := n10_
                                have GE170 := n11_
                                have HB := n12_
                                clear n0_ n1_ n2_ n3_ n4_ n5_ n6_ n7_ n8_ n9_ n10_ n11_ n12_
                                have hHeld : w42.cell? (ad167.add (((ji25)).toNat * 5)) = some (.int .i64 ((rd_T34 t158 (ji25)).f0)) ∧ w42.cell? ⟨(ad167.add (((ji25)).toNat * 5)).block, (ad167.add (((ji25)).toNat * 5)).off + 1, none⟩ = some (.int .i64 ((rd_T34 t158 (ji25)).f1)) ∧ w42.cell? ⟨(ad167.add (((ji25)).toNat * 5)).block, (ad167.add (((ji25)).toNat * 5)).off + 2, none⟩ = some (.int .i64 ((rd_T34 t158 (ji25)).f2)) ∧ w42.cell? ⟨(ad167.add (((ji25)).toNat * 5)).block, (ad167.add (((ji25)).toNat * 5)).off + 3, none⟩ = some (.int .i64 ((rd_T34 t158 (ji25)).f3)) ∧ w42.cell? ⟨(ad167.add (((ji25)).toNat * 5)).block, (ad167.add (((ji25)).toNat * 5)).off + 4, none⟩ = some (.slice A167_4 ((rd_T34 t158 (ji25)).f4).length c167_4) ∧ w42.cell? (ad168.add (((ji28)).toNat * 5)) = some (.int .i64 ((rd_T34 t164 (ji28)).f0)) ∧ w42.cell? ⟨(ad168.add (((ji28)).toNat * 5)).block, (ad168.add (((ji28)).toNat * 5)).off + 1, none⟩ = some (.int .i64 ((rd_T34 t164 (ji28)).f1)) ∧ w42.cell? ⟨(ad168.add (((ji28)).toNat * 5)).block, (ad168.add (((ji28)).toNat * 5)).off + 2, none⟩ = some (.int .i64 ((rd_T34 t164 (ji28)).f2)) ∧ w42.cell? ⟨(ad168.add (((ji28)).toNat * 5)).block, (ad168.add (((ji28)).toNat * 5)).off + 3, none⟩ = some (.int .i64 ((rd_T34 t164 (ji28)).f3)) ∧ w42.cell? ⟨(ad168.add (((ji28)).toNat * 5)).block, (ad168.add (((ji28)).toNat * 5)).off + 4, none⟩ = some (.slice A168_4 ((rd_T34 t164 (ji28)).f4).length c168_4) := hS_
                                refine norm_ (a' := ?_) ?_ ?_
                                rotate_left
                                · simp only [putAll, Act.put, List.setIfInBounds_toArray, List.set_cons_zero, List.set_cons_succ]
                                  rfl
                                refine one_ (i := 14) (N := none) #[true, true, true, true, true, true, true, true, true, true, true, true, true, true, true, false] rfl rfl (one_of HT_.out (by kernel_rfl)) (by decide) (fun K hK => ?_)
                                have hs43 : w42.cell? ⟨gb169, 0, none⟩ = some (.int .i64 0) := (blk_cell BK169.out 0).trans rfl
                                have hfs43 := blk_frozen BK169.out 0
                                have hns43_1 := NB170_169.out
                                have hms43_1 := NB169_170.out
                                have hs44 : w42.cell? ⟨gb169, 1, none⟩ = some (.int .i64 0) := (blk_cell BK169.out 1).trans rfl
                                have hfs44 := blk_frozen BK169.out 1
                                have hns44_1 := NB170_169.out
                                have hms44_1 := NB169_170.out
                                have hs45 : w42.cell? ⟨gb169, 2, none⟩ = some (.int .i64 0) := (blk_cell BK169.out 2).trans rfl
                                have hfs45 := blk_frozen BK169.out 2
                                have hns45_1 := NB170_169.out
                                have hms45_1 := NB169_170.out
                                have hs46 : w42.cell? ⟨gb169, 3, none⟩ = some (.int .i64 0) := (blk_cell BK169.out 3).trans rfl
                                have hfs46 := blk_frozen BK169.out 3
                                have hns46_1 := NB170_169.out
                                have hms46_1 := NB169_170.out
                                have hs47 : w42.cell? ⟨gb169, 4, none⟩ = some (.slice none 0 0) := (blk_cell BK169.out 4).trans rfl
                                have hfs47 := blk_frozen BK169.out 4
                                have hns47_1 := NB170_169.out
                                have hms47_1 := NB169_170.out
                                refine skip_ (w1 := ?_) (by rfl) rfl ?_ ?_
                                rotate_left
                                · go_simp
                                  rfl
                                refine hK.out _ _ ⟨((cell_far (p := ⟨gb169, _, none⟩) (by first | exact Kd.own_blk (Kd.N_away HO_5.out (fun _ hk => hk.2.1)) | (rw [add_block]; exact Kd.own_blk (Kd.N_away HO_5.out (fun _ hk => hk.2.1))) | (show (Addr.add _ _).block ≠ _; rw [add_block]; exact Kd.own_blk (Kd.N_away HO_5.out (fun _ hk => hk.2.1))) | (dsimp only; exact Kd.own_blk (Kd.N_away HO_5.out (fun _ hk => hk.2.1)))) _).trans (((cell_far (p := ⟨gb169, _, none⟩) (by first | exact Kd.own_blk (Kd.N_away HO_5.out (fun _ hk => hk.2.1)) | (rw [add_block]; exact Kd.own_blk (Kd.N_away HO_5.out (fun _ hk => hk.2.1))) | (show (Addr.add _ _).block ≠ _; rw [add_block]; exact Kd.own_blk (Kd.N_away HO_5.out (fun _ hk => hk.2.1))) | (dsimp only; exact Kd.own_blk (Kd.N_away HO_5.out (fun _ hk => hk.2.1)))) _).trans (((cell_far (p := ⟨gb169, _, none⟩) (by first | exact Kd.own_blk (Kd.N_away HO_5.out (fun _ hk => hk.2.1)) | (rw [add_block]; exact Kd.own_blk (Kd.N_away HO_5.out (fun _ hk => hk.2.1))) | (show (Addr.add _ _).block ≠ _; rw [add_block]; exact Kd.own_blk (Kd.N_away HO_5.out (fun _ hk => hk.2.1))) | (dsimp only; exact Kd.own_blk (Kd.N_away HO_5.out (fun _ hk => hk.2.1)))) _).trans (((cell_far (p := ⟨gb169, _, none⟩) (by first | exact Kd.own_blk (Kd.N_away HO_5.out (fun _ hk => hk.2.1)) | (rw [add_block]; exact Kd.own_blk (Kd.N_away HO_5.out (fun _ hk => hk.2.1))) | (show (Addr.add _ _).block ≠ _; rw [add_block]; exact Kd.own_blk (Kd.N_away HO_5.out (fun _ hk => hk.2.1))) | (dsimp only; exact Kd.own_blk (Kd.N_away HO_5.out (fun _ hk => hk.2.1)))) _).trans (((cell_far (p := ⟨gb169, _, none⟩) (by first | exact Kd.own_blk (Kd.N_away HO_5.out (fun _ hk => hk.2.1)) | (rw [add_block]; exact Kd.own_blk (Kd.N_away HO_5.out (fun _ hk => hk.2.1))) | (show (Addr.add _ _).block ≠ _; rw [add_block]; exact Kd.own_blk (Kd.N_away HO_5.out (fun _ hk => hk.2.1))) | (dsimp only; exact Kd.own_blk (Kd.N_away HO_5.out (fun _ hk => hk.2.1)))) _).trans (hHeld.1)))))))))), ((cell_far (p := ⟨gb169, _, none⟩) (by first | exact Kd.own_blk (Kd.N_away HO_5.out (fun _ hk => hk.2.1)) | (rw [add_block]; exact Kd.own_blk (Kd.N_away HO_5.out (fun _ hk => hk.2.1))) | (show (Addr.add _ _).block ≠ _; rw [add_block]; exact Kd.own_blk (Kd.N_away HO_5.out (fun _ hk => hk.2.1))) | (dsimp only; exact Kd.own_blk (Kd.N_away HO_5.out (fun _ hk => hk.2.1)))) _).trans (((cell_far (p := ⟨gb169, _, none⟩) (by first | exact Kd.own_blk (Kd.N_away HO_5.out (fun _ hk => hk.2.1)) | (rw [add_block]; exact Kd.own_blk (Kd.N_away HO_5.out (fun _ hk => hk.2.1))) | (show (Addr.add _ _).block ≠ _; rw [add_block]; exact Kd.own_blk (Kd.N_away HO_5.out (fun _ hk => hk.2.1))) | (dsimp only; exact Kd.own_blk (Kd.N_away HO_5.out (fun _ hk => hk.2.1)))) _).trans (((cell_far (p := ⟨gb169, _, none⟩) (by first | exact Kd.own_blk (Kd.N_away HO_5.out (fun _ hk => hk.2.1)) | (rw [add_block]; exact Kd.own_blk (Kd.N_away HO_5.out (fun _ hk => hk.2.1))) | (show (Addr.add _ _).block ≠ _; rw [add_block]; exact Kd.own_blk (Kd.N_away HO_5.out (fun _ hk => hk.2.1))) | (dsimp only; exact Kd.own_blk (Kd.N_away HO_5.out (fun _ hk => hk.2.1)))) _).trans (((cell_far (p := ⟨gb169, _, none⟩) (by first | exact Kd.own_blk (Kd.N_away HO_5.out (fun _ hk => hk.2.1)) | (rw [add_block]; exact Kd.own_blk (Kd.N_away HO_5.out (fun _ hk => hk.2.1))) | (show (Addr.add _ _).block ≠ _; rw [add_block]; exact Kd.own_blk (Kd.N_away HO_5.out (fun _ hk => hk.2.1))) | (dsimp only; exact Kd.own_blk (Kd.N_away HO_5.out (fun _ hk => hk.2.1)))) _).trans (((cell_far (p := ⟨gb169, _, none⟩) (by first | exact Kd.own_blk (Kd.N_away HO_5.out (fun _ hk => hk.2.1)) | (rw [add_block]; exact Kd.own_blk (Kd.N_away HO_5.out (fun _ hk => hk.2.1))) | (show (Addr.add _ _).block ≠ _; rw [add_block]; exact Kd.own_blk (Kd.N_away HO_5.out (fun _ hk => hk.2.1))) | (dsimp only; exact Kd.own_blk (Kd.N_away HO_5.out (fun _ hk => hk.2.1)))) _).trans (hHeld.2.1)))))))))), ((cell_far (p := ⟨gb169, _, none⟩) (by first | exact Kd.own_blk (Kd.N_away HO_5.out (fun _ hk => hk.2.1)) | (rw [add_block]; exact Kd.own_blk (Kd.N_away HO_5.out (fun _ hk => hk.2.1))) | (show (Addr.add _ _).block ≠ _; rw [add_block]; exact Kd.own_blk (Kd.N_away HO_5.out (fun _ hk => hk.2.1))) | (dsimp only; exact Kd.own_blk (Kd.N_away HO_5.out (fun _ hk => hk.2.1)))) _).trans (((cell_far (p := ⟨gb169, _, none⟩) (by first | exact Kd.own_blk (Kd.N_away HO_5.out (fun _ hk => hk.2.1)) | (rw [add_block]; exact Kd.own_blk (Kd.N_away HO_5.out (fun _ hk => hk.2.1))) | (show (Addr.add _ _).block ≠ _; rw [add_block]; exact Kd.own_blk (Kd.N_away HO_5.out (fun _ hk => hk.2.1))) | (dsimp only; exact Kd.own_blk (Kd.N_away HO_5.out (fun _ hk => hk.2.1)))) _).trans (((cell_far (p := ⟨gb169, _, none⟩) (by first | exact Kd.own_blk (Kd.N_away HO_5.out (fun _ hk => hk.2.1)) | (rw [add_block]; exact Kd.own_blk (Kd.N_away HO_5.out (fun _ hk => hk.2.1))) | (show (Addr.add _ _).block ≠ _; rw [add_block]; exact Kd.own_blk (Kd.N_away HO_5.out (fun _ hk => hk.2.1))) | (dsimp only; exact Kd.own_blk (Kd.N_away HO_5.out (fun _ hk => hk.2.1)))) _).trans (((cell_far (p := ⟨gb169, _, none⟩) (by first | exact Kd.own_blk (Kd.N_away HO_5.out (fun _ hk => hk.2.1)) | (rw [add_block]; exact Kd.own_blk (Kd.N_away HO_5.out (fun _ hk => hk.2.1))) | (show (Addr.add _ _).block ≠ _; rw [add_block]; exact Kd.own_blk (Kd.N_away HO_5.out (fun _ hk => hk.2.1))) | (dsimp only; exact Kd.own_blk (Kd.N_away HO_5.out (fun _ hk => hk.2.1)))) _).trans (((cell_far (p := ⟨gb169, _, none⟩) (by first | exact Kd.own_blk (Kd.N_away HO_5.out (fun _ hk => hk.2.1)) | (rw [add_block]; exact Kd.own_blk (Kd.N_away HO_5.out (fun _ hk => hk.2.1))) | (show (Addr.add _ _).block ≠ _; rw [add_block]; exact Kd.own_blk (Kd.N_away HO_5.out (fun _ hk => hk.2.1))) | (dsimp only; exact Kd.own_blk (Kd.N_away HO_5.out (fun _ hk => hk.2.1)))) _).trans (hHeld.2.2.1)))))))))), ((cell_far (p := ⟨gb169, _, none⟩) (by first | exact Kd.own_blk (Kd.N_away HO_5.out (fun _ hk => hk.2.1)) | (rw [add_block]; exact Kd.own_blk (Kd.N_away HO_5.out (fun _ hk => hk.2.1))) | (show (Addr.add _ _).block ≠ _; rw [add_block]; exact Kd.own_blk (Kd.N_away HO_5.out (fun _ hk => hk.2.1))) | (dsimp only; exact Kd.own_blk (Kd.N_away HO_5.out (fun _ hk => hk.2.1)))) _).trans (((cell_far (p := ⟨gb169, _, none⟩) (by first | exact Kd.own_blk (Kd.N_away HO_5.out (fun _ hk => hk.2.1)) | (rw [add_block]; exact Kd.own_blk (Kd.N_away HO_5.out (fun _ hk => hk.2.1))) | (show (Addr.add _ _).block ≠ _; rw [add_block]; exact Kd.own_blk (Kd.N_away HO_5.out (fun _ hk => hk.2.1))) | (dsimp only; exact Kd.own_blk (Kd.N_away HO_5.out (fun _ hk => hk.2.1)))) _).trans (((cell_far (p := ⟨gb169, _, none⟩) (by first | exact Kd.own_blk (Kd.N_away HO_5.out (fun _ hk => hk.2.1)) | (rw [add_block]; exact Kd.own_blk (Kd.N_away HO_5.out (fun _ hk => hk.2.1))) | (show (Addr.add _ _).block ≠ _; rw [add_block]; exact Kd.own_blk (Kd.N_away HO_5.out (fun _ hk => hk.2.1))) | (dsimp only; exact Kd.own_blk (Kd.N_away HO_5.out (fun _ hk => hk.2.1)))) _).trans (((cell_far (p := ⟨gb169, _, none⟩) (by first | exact Kd.own_blk (Kd.N_away HO_5.out (fun _ hk => hk.2.1)) | (rw [add_block]; exact Kd.own_blk (Kd.N_away HO_5.out (fun _ hk => hk.2.1))) | (show (Addr.add _ _).block ≠ _; rw [add_block]; exact Kd.own_blk (Kd.N_away HO_5.out (fun _ hk => hk.2.1))) | (dsimp only; exact Kd.own_blk (Kd.N_away HO_5.out (fun _ hk => hk.2.1)))) _).trans (((cell_far (p := ⟨gb169, _, none⟩) (by first | exact Kd.own_blk (Kd.N_away HO_5.out (fun _ hk => hk.2.1)) | (rw [add_block]; exact Kd.own_blk (Kd.N_away HO_5.out (fun _ hk => hk.2.1))) | (show (Addr.add _ _).block ≠ _; rw [add_block]; exact Kd.own_blk (Kd.N_away HO_5.out (fun _ hk => hk.2.1))) | (dsimp only; exact Kd.own_blk (Kd.N_away HO_5.out (fun _ hk => hk.2.1)))) _).trans (hHeld.2.2.2.1)))))))))), ((cell_far (p := ⟨gb169, _, none⟩) (by first | exact Kd.own_blk (Kd.N_away HO_5.out (fun _ hk => hk.2.1)) | (rw [add_block]; exact Kd.own_blk (Kd.N_away HO_5.out (fun _ hk => hk.2.1))) | (show (Addr.add _ _).block ≠ _; rw [add_block]; exact Kd.own_blk (Kd.N_away HO_5.out (fun _ hk => hk.2.1))) | (dsimp only; exact Kd.own_blk (Kd.N_away HO_5.out (fun _ hk => hk.2.1)))) _).trans (((cell_far (p := ⟨gb169, _, none⟩) (by first | exact Kd.own_blk (Kd.N_away HO_5.out (fun _ hk => hk.2.1)) | (rw [add_block]; exact Kd.own_blk (Kd.N_away HO_5.out (fun _ hk => hk.2.1))) | (show (Addr.add _ _).block ≠ _; rw [add_block]; exact Kd.own_blk (Kd.N_away HO_5.out (fun _ hk => hk.2.1))) | (dsimp only; exact Kd.own_blk (Kd.N_away HO_5.out (fun _ hk => hk.2.1)))) _).trans (((cell_far (p := ⟨gb169, _, none⟩) (by first | exact Kd.own_blk (Kd.N_away HO_5.out (fun _ hk => hk.2.1)) | (rw [add_block]; exact Kd.own_blk (Kd.N_away HO_5.out (fun _ hk => hk.2.1))) | (show (Addr.add _ _).block ≠ _; rw [add_block]; exact Kd.own_blk (Kd.N_away HO_5.out (fun _ hk => hk.2.1))) | (dsimp only; exact Kd.own_blk (Kd.N_away HO_5.out (fun _ hk => hk.2.1)))) _).trans (((cell_far (p := ⟨gb169, _, none⟩) (by first | exact Kd.own_blk (Kd.N_away HO_5.out (fun _ hk => hk.2.1)) | (rw [add_block]; exact Kd.own_blk (Kd.N_away HO_5.out (fun _ hk => hk.2.1))) | (show (Addr.add _ _).block ≠ _; rw [add_block]; exact Kd.own_blk (Kd.N_away HO_5.out (fun _ hk => hk.2.1))) | (dsimp only; exact Kd.own_blk (Kd.N_away HO_5.out (fun _ hk => hk.2.1)))) _).trans (((cell_far (p := ⟨gb169, _, none⟩) (by first | exact Kd.own_blk (Kd.N_away HO_5.out (fun _ hk => hk.2.1)) | (rw [add_block]; exact Kd.own_blk (Kd.N_away HO_5.out (fun _ hk => hk.2.1))) | (show (Addr.add _ _).block ≠ _; rw [add_block]; exact Kd.own_blk (Kd.N_away HO_5.out (fun _ hk => hk.2.1))) | (dsimp only; exact Kd.own_blk (Kd.N_away HO_5.out (fun _ hk => hk.2.1)))) _).trans (hHeld.2.2.2.2.1)))))))))), ((cell_far (p := ⟨gb169, _, none⟩) (by first | exact Kd.own_blk (Kd.N_away HO_6.out (fun _ hk => hk.2.1)) | (rw [add_block]; exact Kd.own_blk (Kd.N_away HO_6.out (fun _ hk => hk.2.1))) | (show (Addr.add _ _).block ≠ _; rw [add_block]; exact Kd.own_blk (Kd.N_away HO_6.out (fun _ hk => hk.2.1))) | (dsimp only; exact Kd.own_blk (Kd.N_away HO_6.out (fun _ hk => hk.2.1)))) _).trans (((cell_far (p := ⟨gb169, _, none⟩) (by first | exact Kd.own_blk (Kd.N_away HO_6.out (fun _ hk => hk.2.1)) | (rw [add_block]; exact Kd.own_blk (Kd.N_away HO_6.out (fun _ hk => hk.2.1))) | (show (Addr.add _ _).block ≠ _; rw [add_block]; exact Kd.own_blk (Kd.N_away HO_6.out (fun _ hk => hk.2.1))) | (dsimp only; exact Kd.own_blk (Kd.N_away HO_6.out (fun _ hk => hk.2.1)))) _).trans (((cell_far (p := ⟨gb169, _, none⟩) (by first | exact Kd.own_blk (Kd.N_away HO_6.out (fun _ hk => hk.2.1)) | (rw [add_block]; exact Kd.own_blk (Kd.N_away HO_6.out (fun _ hk => hk.2.1))) | (show (Addr.add _ _).block ≠ _; rw [add_block]; exact Kd.own_blk (Kd.N_away HO_6.out (fun _ hk => hk.2.1))) | (dsimp only; exact Kd.own_blk (Kd.N_away HO_6.out (fun _ hk => hk.2.1)))) _).trans (((cell_far (p := ⟨gb169, _, none⟩) (by first | exact Kd.own_blk (Kd.N_away HO_6.out (fun _ hk => hk.2.1)) | (rw [add_block]; exact Kd.own_blk (Kd.N_away HO_6.out (fun _ hk => hk.2.1))) | (show (Addr.add _ _).block ≠ _; rw [add_block]; exact Kd.own_blk (Kd.N_away HO_6.out (fun _ hk => hk.2.1))) | (dsimp only; exact Kd.own_blk (Kd.N_away HO_6.out (fun _ hk => hk.2.1)))) _).trans (((cell_far (p := ⟨gb169, _, none⟩) (by first | exact Kd.own_blk (Kd.N_away HO_6.out (fun _ hk => hk.2.1)) | (rw [add_block]; exact Kd.own_blk (Kd.N_away HO_6.out (fun _ hk => hk.2.1))) | (show (Addr.add _ _).block ≠ _; rw [add_block]; exact Kd.own_blk (Kd.N_away HO_6.out (fun _ hk => hk.2.1))) | (dsimp only; exact Kd.own_blk (Kd.N_away HO_6.out (fun _ hk => hk.2.1)))) _).trans (hHeld.2.2.2.2.2.1)))))))))), ((cell_far (p := ⟨gb169, _, none⟩) (by first | exact Kd.own_blk (Kd.N_away HO_6.out (fun _ hk => hk.2.1)) | (rw [add_block]; exact Kd.own_blk (Kd.N_away HO_6.out (fun _ hk => hk.2.1))) | (show (Addr.add _ _).block ≠ _; rw [add_block]; exact Kd.own_blk (Kd.N_away HO_6.out (fun _ hk => hk.2.1))) | (dsimp only; exact Kd.own_blk (Kd.N_away HO_6.out (fun _ hk => hk.2.1)))) _).trans (((cell_far (p := ⟨gb169, _, none⟩) (by first | exact Kd.own_blk (Kd.N_away HO_6.out (fun _ hk => hk.2.1)) | (rw [add_block]; exact Kd.own_blk (Kd.N_away HO_6.out (fun _ hk => hk.2.1))) | (show (Addr.add _ _).block ≠ _; rw [add_block]; exact Kd.own_blk (Kd.N_away HO_6.out (fun _ hk => hk.2.1))) | (dsimp only; exact Kd.own_blk (Kd.N_away HO_6.out (fun _ hk => hk.2.1)))) _).trans (((cell_far (p := ⟨gb169, _, none⟩) (by first | exact Kd.own_blk (Kd.N_away HO_6.out (fun _ hk => hk.2.1)) | (rw [add_block]; exact Kd.own_blk (Kd.N_away HO_6.out (fun _ hk => hk.2.1))) | (show (Addr.add _ _).block ≠ _; rw [add_block]; exact Kd.own_blk (Kd.N_away HO_6.out (fun _ hk => hk.2.1))) | (dsimp only; exact Kd.own_blk (Kd.N_away HO_6.out (fun _ hk => hk.2.1)))) _).trans (((cell_far (p := ⟨gb169, _, none⟩) (by first | exact Kd.own_blk (Kd.N_away HO_6.out (fun _ hk => hk.2.1)) | (rw [add_block]; exact Kd.own_blk (Kd.N_away HO_6.out (fun _ hk => hk.2.1))) | (show (Addr.add _ _).block ≠ _; rw [add_block]; exact Kd.own_blk (Kd.N_away HO_6.out (fun _ hk => hk.2.1))) | (dsimp only; exact Kd.own_blk (Kd.N_away HO_6.out (fun _ hk => hk.2.1)))) _).trans (((cell_far (p := ⟨gb169, _, none⟩) (by first | exact Kd.own_blk (Kd.N_away HO_6.out (fun _ hk => hk.2.1)) | (rw [add_block]; exact Kd.own_blk (Kd.N_away HO_6.out (fun _ hk => hk.2.1))) | (show (Addr.add _ _).block ≠ _; rw [add_block]; exact Kd.own_blk (Kd.N_away HO_6.out (fun _ hk => hk.2.1))) | (dsimp only; exact Kd.own_blk (Kd.N_away HO_6.out (fun _ hk => hk.2.1)))) _).trans (hHeld.2.2.2.2.2.2.1)))))))))), ((cell_far (p := ⟨gb169, _, none⟩) (by first | exact Kd.own_blk (Kd.N_away HO_6.out (fun _ hk => hk.2.1)) | (rw [add_block]; exact Kd.own_blk (Kd.N_away HO_6.out (fun _ hk => hk.2.1))) | (show (Addr.add _ _).block ≠ _; rw [add_block]; exact Kd.own_blk (Kd.N_away HO_6.out (fun _ hk => hk.2.1))) | (dsimp only; exact Kd.own_blk (Kd.N_away HO_6.out (fun _ hk => hk.2.1)))) _).trans (((cell_far (p := ⟨gb169, _, none⟩) (by first | exact Kd.own_blk (Kd.N_away HO_6.out (fun _ hk => hk.2.1)) | (rw [add_block]; exact Kd.own_blk (Kd.N_away HO_6.out (fun _ hk => hk.2.1))) | (show (Addr.add _ _).block ≠ _; rw [add_block]; exact Kd.own_blk (Kd.N_away HO_6.out (fun _ hk => hk.2.1))) | (dsimp only; exact Kd.own_blk (Kd.N_away HO_6.out (fun _ hk => hk.2.1)))) _).trans (((cell_far (p := ⟨gb169, _, none⟩) (by first | exact Kd.own_blk (Kd.N_away HO_6.out (fun _ hk => hk.2.1)) | (rw [add_block]; exact Kd.own_blk (Kd.N_away HO_6.out (fun _ hk => hk.2.1))) | (show (Addr.add _ _).block ≠ _; rw [add_block]; exact Kd.own_blk (Kd.N_away HO_6.out (fun _ hk => hk.2.1))) | (dsimp only; exact Kd.own_blk (Kd.N_away HO_6.out (fun _ hk => hk.2.1)))) _).trans (((cell_far (p := ⟨gb169, _, none⟩) (by first | exact Kd.own_blk (Kd.N_away HO_6.out (fun _ hk => hk.2.1)) | (rw [add_block]; exact Kd.own_blk (Kd.N_away HO_6.out (fun _ hk => hk.2.1))) | (show (Addr.add _ _).block ≠ _; rw [add_block]; exact Kd.own_blk (Kd.N_away HO_6.out (fun _ hk => hk.2.1))) | (dsimp only; exact Kd.own_blk (Kd.N_away HO_6.out (fun _ hk => hk.2.1)))) _).trans (((cell_far (p := ⟨gb169, _, none⟩) (by first | exact Kd.own_blk (Kd.N_away HO_6.out (fun _ hk => hk.2.1)) | (rw [add_block]; exact Kd.own_blk (Kd.N_away HO_6.out (fun _ hk => hk.2.1))) | (show (Addr.add _ _).block ≠ _; rw [add_block]; exact Kd.own_blk (Kd.N_away HO_6.out (fun _ hk => hk.2.1))) | (dsimp only; exact Kd.own_blk (Kd.N_away HO_6.out (fun _ hk => hk.2.1)))) _).trans (hHeld.2.2.2.2.2.2.2.1)))))))))), ((cell_far (p := ⟨gb169, _, none⟩) (by first | exact Kd.own_blk (Kd.N_away HO_6.out (fun _ hk => hk.2.1)) | (rw [add_block]; exact Kd.own_blk (Kd.N_away HO_6.out (fun _ hk => hk.2.1))) | (show (Addr.add _ _).block ≠ _; rw [add_block]; exact Kd.own_blk (Kd.N_away HO_6.out (fun _ hk => hk.2.1))) | (dsimp only; exact Kd.own_blk (Kd.N_away HO_6.out (fun _ hk => hk.2.1)))) _).trans (((cell_far (p := ⟨gb169, _, none⟩) (by first | exact Kd.own_blk (Kd.N_away HO_6.out (fun _ hk => hk.2.1)) | (rw [add_block]; exact Kd.own_blk (Kd.N_away HO_6.out (fun _ hk => hk.2.1))) | (show (Addr.add _ _).block ≠ _; rw [add_block]; exact Kd.own_blk (Kd.N_away HO_6.out (fun _ hk => hk.2.1))) | (dsimp only; exact Kd.own_blk (Kd.N_away HO_6.out (fun _ hk => hk.2.1)))) _).trans (((cell_far (p := ⟨gb169, _, none⟩) (by first | exact Kd.own_blk (Kd.N_away HO_6.out (fun _ hk => hk.2.1)) | (rw [add_block]; exact Kd.own_blk (Kd.N_away HO_6.out (fun _ hk => hk.2.1))) | (show (Addr.add _ _).block ≠ _; rw [add_block]; exact Kd.own_blk (Kd.N_away HO_6.out (fun _ hk => hk.2.1))) | (dsimp only; exact Kd.own_blk (Kd.N_away HO_6.out (fun _ hk => hk.2.1)))) _).trans (((cell_far (p := ⟨gb169, _, none⟩) (by first | exact Kd.own_blk (Kd.N_away HO_6.out (fun _ hk => hk.2.1)) | (rw [add_block]; exact Kd.own_blk (Kd.N_away HO_6.out (fun _ hk => hk.2.1))) | (show (Addr.add _ _).block ≠ _; rw [add_block]; exact Kd.own_blk (Kd.N_away HO_6.out (fun _ hk => hk.2.1))) | (dsimp only; exact Kd.own_blk (Kd.N_away HO_6.out (fun _ hk => hk.2.1)))) _).trans (((cell_far (p := ⟨gb169, _, none⟩) (by first | exact Kd.own_blk (Kd.N_away HO_6.out (fun _ hk => hk.2.1)) | (rw [add_block]; exact Kd.own_blk (Kd.N_away HO_6.out (fun _ hk => hk.2.1))) | (show (Addr.add _ _).block ≠ _; rw [add_block]; exact Kd.own_blk (Kd.N_away HO_6.out (fun _ hk => hk.2.1))) | (dsimp only; exact Kd.own_blk (Kd.N_away HO_6.out (fun _ hk => hk.2.1)))) _).trans (hHeld.2.2.2.2.2.2.2.2.1)))))))))), ((cell_far (p := ⟨gb169, _, none⟩) (by first | exact Kd.own_blk (Kd.N_away HO_6.out (fun _ hk => hk.2.1)) | (rw [add_block]; exact Kd.own_blk (Kd.N_away HO_6.out (fun _ hk => hk.2.1))) | (show (Addr.add _ _).block ≠ _; rw [add_block]; exact Kd.own_blk (Kd.N_away HO_6.out (fun _ hk => hk.2.1))) | (dsimp only; exact Kd.own_blk (Kd.N_away HO_6.out (fun _ hk => hk.2.1)))) _).trans (((cell_far (p := ⟨gb169, _, none⟩) (by first | exact Kd.own_blk (Kd.N_away HO_6.out (fun _ hk => hk.2.1)) | (rw [add_block]; exact Kd.own_blk (Kd.N_away HO_6.out (fun _ hk => hk.2.1))) | (show (Addr.add _ _).block ≠ _; rw [add_block]; exact Kd.own_blk (Kd.N_away HO_6.out (fun _ hk => hk.2.1))) | (dsimp only; exact Kd.own_blk (Kd.N_away HO_6.out (fun _ hk => hk.2.1)))) _).trans (((cell_far (p := ⟨gb169, _, none⟩) (by first | exact Kd.own_blk (Kd.N_away HO_6.out (fun _ hk => hk.2.1)) | (rw [add_block]; exact Kd.own_blk (Kd.N_away HO_6.out (fun _ hk => hk.2.1))) | (show (Addr.add _ _).block ≠ _; rw [add_block]; exact Kd.own_blk (Kd.N_away HO_6.out (fun _ hk => hk.2.1))) | (dsimp only; exact Kd.own_blk (Kd.N_away HO_6.out (fun _ hk => hk.2.1)))) _).trans (((cell_far (p := ⟨gb169, _, none⟩) (by first | exact Kd.own_blk (Kd.N_away HO_6.out (fun _ hk => hk.2.1)) | (rw [add_block]; exact Kd.own_blk (Kd.N_away HO_6.out (fun _ hk => hk.2.1))) | (show (Addr.add _ _).block ≠ _; rw [add_block]; exact Kd.own_blk (Kd.N_away HO_6.out (fun _ hk => hk.2.1))) | (dsimp only; exact Kd.own_blk (Kd.N_away HO_6.out (fun _ hk => hk.2.1)))) _).trans (((cell_far (p := ⟨gb169, _, none⟩) (by first | exact Kd.own_blk (Kd.N_away HO_6.out (fun _ hk => hk.2.1)) | (rw [add_block]; exact Kd.own_blk (Kd.N_away HO_6.out (fun _ hk => hk.2.1))) | (show (Addr.add _ _).block ≠ _; rw [add_block]; exact Kd.own_blk (Kd.N_away HO_6.out (fun _ hk => hk.2.1))) | (dsimp only; exact Kd.own_blk (Kd.N_away HO_6.out (fun _ hk => hk.2.1)))) _).trans (hHeld.2.2.2.2.2.2.2.2.2))))))))))⟩ (fun hHeld => ?_)
                                clear hK K
                                refine one_ (i := 15) (N := none) #[true, true, true, true, true, true, true, true, true, true, true, true, true, true, true, true] rfl rfl (one_of HT_.out (by kernel_rfl)) (by decide) (fun K hK => ?_)
                                have hs48 : w42.cell? ⟨gb170, 0, none⟩ = some (.int .i64 0) := (blk_cell BK170.out 0).trans rfl
                                have hfs48 := blk_frozen BK170.out 0
                                have hns48_0 := NB169_170.out
                                have hms48_0 := NB170_169.out
                                have hs49 : w42.cell? ⟨gb170, 1, none⟩ = some (.int .i64 0) := (blk_cell BK170.out 1).trans rfl
                                have hfs49 := blk_frozen BK170.out 1
                                have hns49_0 := NB169_170.out
                                have hms49_0 := NB170_169.out
                                have hs50 : w42.cell? ⟨gb170, 2, none⟩ = some (.int .i64 0) := (blk_cell BK170.out 2).trans rfl
                                have hfs50 := blk_frozen BK170.out 2
                                have hns50_0 := NB169_170.out
                                have hms50_0 := NB170_169.out
                                have hs51 : w42.cell? ⟨gb170, 3, none⟩ = some (.int .i64 0) := (blk_cell BK170.out 3).trans rfl
                                have hfs51 := blk_frozen BK170.out 3
                                have hns51_0 := NB169_170.out
                                have hms51_0 := NB170_169.out
                                have hs52 : w42.cell? ⟨gb170, 4, none⟩ = some (.slice none 0 0) := (blk_cell BK170.out 4).trans rfl
                                have hfs52 := blk_frozen BK170.out 4
                                have hns52_0 := NB169_170.out
                                have hms52_0 := NB170_169.out
                                refine skip_ (w1 := ?_) (by rfl) rfl ?_ ?_
                                rotate_left
                                · go_simp
                                  rfl
                                refine hK.out _ _ ⟨((cell_far (p := ⟨gb170, _, none⟩) (by first | exact Kd.own_blk (Kd.N_away HO_5.out (fun _ hk => hk.2.2)) | (rw [add_block]; exact Kd.own_blk (Kd.N_away HO_5.out (fun _ hk => hk.2.2))) | (show (Addr.add _ _).block ≠ _; rw [add_block]; exact Kd.own_blk (Kd.N_away HO_5.out (fun _ hk => hk.2.2))) | (dsimp only; exact Kd.own_blk (Kd.N_away HO_5.out (fun _ hk => hk.2.2)))) _).trans (((cell_far (p := ⟨gb170, _, none⟩) (by first | exact Kd.own_blk (Kd.N_away HO_5.out (fun _ hk => hk.2.2)) | (rw [add_block]; exact Kd.own_blk (Kd.N_away HO_5.out (fun _ hk => hk.2.2))) | (show (Addr.add _ _).block ≠ _; rw [add_block]; exact Kd.own_blk (Kd.N_away HO_5.out (fun _ hk => hk.2.2))) | (dsimp only; exact Kd.own_blk (Kd.N_away HO_5.out (fun _ hk => hk.2.2)))) _).trans (((cell_far (p := ⟨gb170, _, none⟩) (by first | exact Kd.own_blk (Kd.N_away HO_5.out (fun _ hk => hk.2.2)) | (rw [add_block]; exact Kd.own_blk (Kd.N_away HO_5.out (fun _ hk => hk.2.2))) | (show (Addr.add _ _).block ≠ _; rw [add_block]; exact Kd.own_blk (Kd.N_away HO_5.out (fun _ hk => hk.2.2))) | (dsimp only; exact Kd.own_blk (Kd.N_away HO_5.out (fun _ hk => hk.2.2)))) _).trans (((cell_far (p := ⟨gb170, _, none⟩) (by first | exact Kd.own_blk (Kd.N_away HO_5.out (fun _ hk => hk.2.2)) | (rw [add_block]; exact Kd.own_blk (Kd.N_away HO_5.out (fun _ hk => hk.2.2))) | (show (Addr.add _ _).block ≠ _; rw [add_block]; exact Kd.own_blk (Kd.N_away HO_5.out (fun _ hk => hk.2.2))) | (dsimp only; exact Kd.own_blk (Kd.N_away HO_5.out (fun _ hk => hk.2.2)))) _).trans (((cell_far (p := ⟨gb170, _, none⟩) (by first | exact Kd.own_blk (Kd.N_away HO_5.out (fun _ hk => hk.2.2)) | (rw [add_block]; exact Kd.own_blk (Kd.N_away HO_5.out (fun _ hk => hk.2.2))) | (show (Addr.add _ _).block ≠ _; rw [add_block]; exact Kd.own_blk (Kd.N_away HO_5.out (fun _ hk => hk.2.2))) | (dsimp only; exact Kd.own_blk (Kd.N_away HO_5.out (fun _ hk => hk.2.2)))) _).trans (hHeld.1)))))))))), ((cell_far (p := ⟨gb170, _, none⟩) (by first | exact Kd.own_blk (Kd.N_away HO_5.out (fun _ hk => hk.2.2)) | (rw [add_block]; exact Kd.own_blk (Kd.N_away HO_5.out (fun _ hk => hk.2.2))) | (show (Addr.add _ _).block ≠ _; rw [add_block]; exact Kd.own_blk (Kd.N_away HO_5.out (fun _ hk => hk.2.2))) | (dsimp only; exact Kd.own_blk (Kd.N_away HO_5.out (fun _ hk => hk.2.2)))) _).trans (((cell_far (p := ⟨gb170, _, none⟩) (by first | exact Kd.own_blk (Kd.N_away HO_5.out (fun _ hk => hk.2.2)) | (rw [add_block]; exact Kd.own_blk (Kd.N_away HO_5.out (fun _ hk => hk.2.2))) | (show (Addr.add _ _).block ≠ _; rw [add_block]; exact Kd.own_blk (Kd.N_away HO_5.out (fun _ hk => hk.2.2))) | (dsimp only; exact Kd.own_blk (Kd.N_away HO_5.out (fun _ hk => hk.2.2)))) _).trans (((cell_far (p := ⟨gb170, _, none⟩) (by first | exact Kd.own_blk (Kd.N_away HO_5.out (fun _ hk => hk.2.2)) | (rw [add_block]; exact Kd.own_blk (Kd.N_away HO_5.out (fun _ hk => hk.2.2))) | (show (Addr.add _ _).block ≠ _; rw [add_block]; exact Kd.own_blk (Kd.N_away HO_5.out (fun _ hk => hk.2.2))) | (dsimp only; exact Kd.own_blk (Kd.N_away HO_5.out (fun _ hk => hk.2.2)))) _).trans (((cell_far (p := ⟨gb170, _, none⟩) (by first | exact Kd.own_blk (Kd.N_away HO_5.out (fun _ hk => hk.2.2)) | (rw [add_block]; exact Kd.own_blk (Kd.N_away HO_5.out (fun _ hk => hk.2.2))) | (show (Addr.add _ _).block ≠ _; rw [add_block]; exact Kd.own_blk (Kd.N_away HO_5.out (fun _ hk => hk.2.2))) | (dsimp only; exact Kd.own_blk (Kd.N_away HO_5.out (fun _ hk => hk.2.2)))) _).trans (((cell_far (p := ⟨gb170, _, none⟩) (by first | exact Kd.own_blk (Kd.N_away HO_5.out (fun _ hk => hk.2.2)) | (rw [add_block]; exact Kd.own_blk (Kd.N_away HO_5.out (fun _ hk => hk.2.2))) | (show (Addr.add _ _).block ≠ _; rw [add_block]; exact Kd.own_blk (Kd.N_away HO_5.out (fun _ hk => hk.2.2))) | (dsimp only; exact Kd.own_blk (Kd.N_away HO_5.out (fun _ hk => hk.2.2)))) _).trans (hHeld.2.1)))))))))), ((cell_far (p := ⟨gb170, _, none⟩) (by first | exact Kd.own_blk (Kd.N_away HO_5.out (fun _ hk => hk.2.2)) | (rw [add_block]; exact Kd.own_blk (Kd.N_away HO_5.out (fun _ hk => hk.2.2))) | (show (Addr.add _ _).block ≠ _; rw [add_block]; exact Kd.own_blk (Kd.N_away HO_5.out (fun _ hk => hk.2.2))) | (dsimp only; exact Kd.own_blk (Kd.N_away HO_5.out (fun _ hk => hk.2.2)))) _).trans (((cell_far (p := ⟨gb170, _, none⟩) (by first | exact Kd.own_blk (Kd.N_away HO_5.out (fun _ hk => hk.2.2)) | (rw [add_block]; exact Kd.own_blk (Kd.N_away HO_5.out (fun _ hk => hk.2.2))) | (show (Addr.add _ _).block ≠ _; rw [add_block]; exact Kd.own_blk (Kd.N_away HO_5.out (fun _ hk => hk.2.2))) | (dsimp only; exact Kd.own_blk (Kd.N_away HO_5.out (fun _ hk => hk.2.2)))) _).trans (((cell_far (p := ⟨gb170, _, none⟩) (by first | exact Kd.own_blk (Kd.N_away HO_5.out (fun _ hk => hk.2.2)) | (rw [add_block]; exact Kd.own_blk (Kd.N_away HO_5.out (fun _ hk => hk.2.2))) | (show (Addr.add _ _).block ≠ _; rw [add_block]; exact Kd.own_blk (Kd.N_away HO_5.out (fun _ hk => hk.2.2))) | (dsimp only; exact Kd.own_blk (Kd.N_away HO_5.out (fun _ hk => hk.2.2)))) _).trans (((cell_far (p := ⟨gb170, _, none⟩) (by first | exact Kd.own_blk (Kd.N_away HO_5.out (fun _ hk => hk.2.2)) | (rw [add_block]; exact Kd.own_blk (Kd.N_away HO_5.out (fun _ hk => hk.2.2))) | (show (Addr.add _ _).block ≠ _; rw [add_block]; exact Kd.own_blk (Kd.N_away HO_5.out (fun _ hk => hk.2.2))) | (dsimp only; exact Kd.own_blk (Kd.N_away HO_5.out (fun _ hk => hk.2.2)))) _).trans (((cell_far (p := ⟨gb170, _, none⟩) (by first | exact Kd.own_blk (Kd.N_away HO_5.out (fun _ hk => hk.2.2)) | (rw [add_block]; exact Kd.own_blk (Kd.N_away HO_5.out (fun _ hk => hk.2.2))) | (show (Addr.add _ _).block ≠ _; rw [add_block]; exact Kd.own_blk (Kd.N_away HO_5.out (fun _ hk => hk.2.2))) | (dsimp only; exact Kd.own_blk (Kd.N_away HO_5.out (fun _ hk => hk.2.2)))) _).trans (hHeld.2.2.1)))))))))), ((cell_far (p := ⟨gb170, _, none⟩) (by first | exact Kd.own_blk (Kd.N_away HO_5.out (fun _ hk => hk.2.2)) | (rw [add_block]; exact Kd.own_blk (Kd.N_away HO_5.out (fun _ hk => hk.2.2))) | (show (Addr.add _ _).block ≠ _; rw [add_block]; exact Kd.own_blk (Kd.N_away HO_5.out (fun _ hk => hk.2.2))) | (dsimp only; exact Kd.own_blk (Kd.N_away HO_5.out (fun _ hk => hk.2.2)))) _).trans (((cell_far (p := ⟨gb170, _, none⟩) (by first | exact Kd.own_blk (Kd.N_away HO_5.out (fun _ hk => hk.2.2)) | (rw [add_block]; exact Kd.own_blk (Kd.N_away HO_5.out (fun _ hk => hk.2.2))) | (show (Addr.add _ _).block ≠ _; rw [add_block]; exact Kd.own_blk (Kd.N_away HO_5.out (fun _ hk => hk.2.2))) | (dsimp only; exact Kd.own_blk (Kd.N_away HO_5.out (fun _ hk => hk.2.2)))) _).trans (((cell_far (p := ⟨gb170, _, none⟩) (by first | exact Kd.own_blk (Kd.N_away HO_5.out (fun _ hk => hk.2.2)) | (rw [add_block]; exact Kd.own_blk (Kd.N_away HO_5.out (fun _ hk => hk.2.2))) | (show (Addr.add _ _).block ≠ _; rw [add_block]; exact Kd.own_blk (Kd.N_away HO_5.out (fun _ hk => hk.2.2))) | (dsimp only; exact Kd.own_blk (Kd.N_away HO_5.out (fun _ hk => hk.2.2)))) _).trans (((cell_far (p := ⟨gb170, _, none⟩) (by first | exact Kd.own_blk (Kd.N_away HO_5.out (fun _ hk => hk.2.2)) | (rw [add_block]; exact Kd.own_blk (Kd.N_away HO_5.out (fun _ hk => hk.2.2))) | (show (Addr.add _ _).block ≠ _; rw [add_block]; exact Kd.own_blk (Kd.N_away HO_5.out (fun _ hk => hk.2.2))) | (dsimp only; exact Kd.own_blk (Kd.N_away HO_5.out (fun _ hk => hk.2.2)))) _).trans (((cell_far (p := ⟨gb170, _, none⟩) (by first | exact Kd.own_blk (Kd.N_away HO_5.out (fun _ hk => hk.2.2)) | (rw [add_block]; exact Kd.own_blk (Kd.N_away HO_5.out (fun _ hk => hk.2.2))) | (show (Addr.add _ _).block ≠ _; rw [add_block]; exact Kd.own_blk (Kd.N_away HO_5.out (fun _ hk => hk.2.2))) | (dsimp only; exact Kd.own_blk (Kd.N_away HO_5.out (fun _ hk => hk.2.2)))) _).trans (hHeld.2.2.2.1)))))))))), ((cell_far (p := ⟨gb170, _, none⟩) (by first | exact Kd.own_blk (Kd.N_away HO_5.out (fun _ hk => hk.2.2)) | (rw [add_block]; exact Kd.own_blk (Kd.N_away HO_5.out (fun _ hk => hk.2.2))) | (show (Addr.add _ _).block ≠ _; rw [add_block]; exact Kd.own_blk (Kd.N_away HO_5.out (fun _ hk => hk.2.2))) | (dsimp only; exact Kd.own_blk (Kd.N_away HO_5.out (fun _ hk => hk.2.2)))) _).trans (((cell_far (p := ⟨gb170, _, none⟩) (by first | exact Kd.own_blk (Kd.N_away HO_5.out (fun _ hk => hk.2.2)) | (rw [add_block]; exact Kd.own_blk (Kd.N_away HO_5.out (fun _ hk => hk.2.2))) | (show (Addr.add _ _).block ≠ _; rw [add_block]; exact Kd.own_blk (Kd.N_away HO_5.out (fun _ hk => hk.2.2))) | (dsimp only; exact Kd.own_blk (Kd.N_away HO_5.out (fun _ hk => hk.2.2)))) _).trans (((cell_far (p := ⟨gb170, _, none⟩) (by first | exact Kd.own_blk (Kd.N_away HO_5.out (fun _ hk => hk.2.2)) | (rw [add_block]; exact Kd.own_blk (Kd.N_away HO_5.out (fun _ hk => hk.2.2))) | (show (Addr.add _ _).block ≠ _; rw [add_block]; exact Kd.own_blk (Kd.N_away HO_5.out (fun _ hk => hk.2.2))) | (dsimp only; exact Kd.own_blk (Kd.N_away HO_5.out (fun _ hk => hk.2.2)))) _).trans (((cell_far (p := ⟨gb170, _, none⟩) (by first | exact Kd.own_blk (Kd.N_away HO_5.out (fun _ hk => hk.2.2)) | (rw [add_block]; exact Kd.own_blk (Kd.N_away HO_5.out (fun _ hk => hk.2.2))) | (show (Addr.add _ _).block ≠ _; rw [add_block]; exact Kd.own_blk (Kd.N_away HO_5.out (fun _ hk => hk.2.2))) | (dsimp only; exact Kd.own_blk (Kd.N_away HO_5.out (fun _ hk => hk.2.2)))) _).trans (((cell_far (p := ⟨gb170, _, none⟩) (by first | exact Kd.own_blk (Kd.N_away HO_5.out (fun _ hk => hk.2.2)) | (rw [add_block]; exact Kd.own_blk (Kd.N_away HO_5.out (fun _ hk => hk.2.2))) | (show (Addr.add _ _).block ≠ _; rw [add_block]; exact Kd.own_blk (Kd.N_away HO_5.out (fun _ hk => hk.2.2))) | (dsimp only; exact Kd.own_blk (Kd.N_away HO_5.out (fun _ hk => hk.2.2)))) _).trans (hHeld.2.2.2.2.1)))))))))), ((cell_far (p := ⟨gb170, _, none⟩) (by first | exact Kd.own_blk (Kd.N_away HO_6.out (fun _ hk => hk.2.2)) | (rw [add_block]; exact Kd.own_blk (Kd.N_away HO_6.out (fun _ hk => hk.2.2))) | (show (Addr.add _ _).block ≠ _; rw [add_block]; exact Kd.own_blk (Kd.N_away HO_6.out (fun _ hk => hk.2.2))) | (dsimp only; exact Kd.own_blk (Kd.N_away HO_6.out (fun _ hk => hk.2.2)))) _).trans (((cell_far (p := ⟨gb170, _, none⟩) (by first | exact Kd.own_blk (Kd.N_away HO_6.out (fun _ hk => hk.2.2)) | (rw [add_block]; exact Kd.own_blk (Kd.N_away HO_6.out (fun _ hk => hk.2.2))) | (show (Addr.add _ _).block ≠ _; rw [add_block]; exact Kd.own_blk (Kd.N_away HO_6.out (fun _ hk => hk.2.2))) | (dsimp only; exact Kd.own_blk (Kd.N_away HO_6.out (fun _ hk => hk.2.2)))) _).trans (((cell_far (p := ⟨gb170, _, none⟩) (by first | exact Kd.own_blk (Kd.N_away HO_6.out (fun _ hk => hk.2.2)) | (rw [add_block]; exact Kd.own_blk (Kd.N_away HO_6.out (fun _ hk => hk.2.2))) | (show (Addr.add _ _).block ≠ _; rw [add_block]; exact Kd.own_blk (Kd.N_away HO_6.out (fun _ hk => hk.2.2))) | (dsimp only; exact Kd.own_blk (Kd.N_away HO_6.out (fun _ hk => hk.2.2)))) _).trans (((cell_far (p := ⟨gb170, _, none⟩) (by first | exact Kd.own_blk (Kd.N_away HO_6.out (fun _ hk => hk.2.2)) | (rw [add_block]; exact Kd.own_blk (Kd.N_away HO_6.out (fun _ hk => hk.2.2))) | (show (Addr.add _ _).block ≠ _; rw [add_block]; exact Kd.own_blk (Kd.N_away HO_6.out (fun _ hk => hk.2.2))) | (dsimp only; exact Kd.own_blk (Kd.N_away HO_6.out (fun _ hk => hk.2.2)))) _).trans (((cell_far (p := ⟨gb170, _, none⟩) (by first | exact Kd.own_blk (Kd.N_away HO_6.out (fun _ hk => hk.2.2)) | (rw [add_block]; exact Kd.own_blk (Kd.N_away HO_6.out (fun _ hk => hk.2.2))) | (show (Addr.add _ _).block ≠ _; rw [add_block]; exact Kd.own_blk (Kd.N_away HO_6.out (fun _ hk => hk.2.2))) | (dsimp only; exact Kd.own_blk (Kd.N_away HO_6.out (fun _ hk => hk.2.2)))) _).trans (hHeld.2.2.2.2.2.1)))))))))), ((cell_far (p := ⟨gb170, _, none⟩) (by first | exact Kd.own_blk (Kd.N_away HO_6.out (fun _ hk => hk.2.2)) | (rw [add_block]; exact Kd.own_blk (Kd.N_away HO_6.out (fun _ hk => hk.2.2))) | (show (Addr.add _ _).block ≠ _; rw [add_block]; exact Kd.own_blk (Kd.N_away HO_6.out (fun _ hk => hk.2.2))) | (dsimp only; exact Kd.own_blk (Kd.N_away HO_6.out (fun _ hk => hk.2.2)))) _).trans (((cell_far (p := ⟨gb170, _, none⟩) (by first | exact Kd.own_blk (Kd.N_away HO_6.out (fun _ hk => hk.2.2)) | (rw [add_block]; exact Kd.own_blk (Kd.N_away HO_6.out (fun _ hk => hk.2.2))) | (show (Addr.add _ _).block ≠ _; rw [add_block]; exact Kd.own_blk (Kd.N_away HO_6.out (fun _ hk => hk.2.2))) | (dsimp only; exact Kd.own_blk (Kd.N_away HO_6.out (fun _ hk => hk.2.2)))) _).trans (((cell_far (p := ⟨gb170, _, none⟩) (by first | exact Kd.own_blk (Kd.N_away HO_6.out (fun _ hk => hk.2.2)) | (rw [add_block]; exact Kd.own_blk (Kd.N_away HO_6.out (fun _ hk => hk.2.2))) | (show (Addr.add _ _).block ≠ _; rw [add_block]; exact Kd.own_blk (Kd.N_away HO_6.out (fun _ hk => hk.2.2))) | (dsimp only; exact Kd.own_blk (Kd.N_away HO_6.out (fun _ hk => hk.2.2)))) _).trans (((cell_far (p := ⟨gb170, _, none⟩) (by first | exact Kd.own_blk (Kd.N_away HO_6.out (fun _ hk => hk.2.2)) | (rw [add_block]; exact Kd.own_blk (Kd.N_away HO_6.out (fun _ hk => hk.2.2))) | (show (Addr.add _ _).block ≠ _; rw [add_block]; exact Kd.own_blk (Kd.N_away HO_6.out (fun _ hk => hk.2.2))) | (dsimp only; exact Kd.own_blk (Kd.N_away HO_6.out (fun _ hk => hk.2.2)))) _).trans (((cell_far (p := ⟨gb170, _, none⟩) (by first | exact Kd.own_blk (Kd.N_away HO_6.out (fun _ hk => hk.2.2)) | (rw [add_block]; exact Kd.own_blk (Kd.N_away HO_6.out (fun _ hk => hk.2.2))) | (show (Addr.add _ _).block ≠ _; rw [add_block]; exact Kd.own_blk (Kd.N_away HO_6.out (fun _ hk => hk.2.2))) | (dsimp only; exact Kd.own_blk (Kd.N_away HO_6.out (fun _ hk => hk.2.2)))) _).trans (hHeld.2.2.2.2.2.2.1)))))))))), ((cell_far (p := ⟨gb170, _, none⟩) (by first | exact Kd.own_blk (Kd.N_away HO_6.out (fun _ hk => hk.2.2)) | (rw [add_block]; exact Kd.own_blk (Kd.N_away HO_6.out (fun _ hk => hk.2.2))) | (show (Addr.add _ _).block ≠ _; rw [add_block]; exact Kd.own_blk (Kd.N_away HO_6.out (fun _ hk => hk.2.2))) | (dsimp only; exact Kd.own_blk (Kd.N_away HO_6.out (fun _ hk => hk.2.2)))) _).trans (((cell_far (p := ⟨gb170, _, none⟩) (by first | exact Kd.own_blk (Kd.N_away HO_6.out (fun _ hk => hk.2.2)) | (rw [add_block]; exact Kd.own_blk (Kd.N_away HO_6.out (fun _ hk => hk.2.2))) | (show (Addr.add _ _).block ≠ _; rw [add_block]; exact Kd.own_blk (Kd.N_away HO_6.out (fun _ hk => hk.2.2))) | (dsimp only; exact Kd.own_blk (Kd.N_away HO_6.out (fun _ hk => hk.2.2)))) _).trans (((cell_far (p := ⟨gb170, _, none⟩) (by first | exact Kd.own_blk (Kd.N_away HO_6.out (fun _ hk => hk.2.2)) | (rw [add_block]; exact Kd.own_blk (Kd.N_away HO_6.out (fun _ hk => hk.2.2))) | (show (Addr.add _ _).block ≠ _; rw [add_block]; exact Kd.own_blk (Kd.N_away HO_6.out (fun _ hk => hk.2.2))) | (dsimp only; exact Kd.own_blk (Kd.N_away HO_6.out (fun _ hk => hk.2.2)))) _).trans (((cell_far (p := ⟨gb170, _, none⟩) (by first | exact Kd.own_blk (Kd.N_away HO_6.out (fun _ hk => hk.2.2)) | (rw [add_block]; exact Kd.own_blk (Kd.N_away HO_6.out (fun _ hk => hk.2.2))) | (show (Addr.add _ _).block ≠ _; rw [add_block]; exact Kd.own_blk (Kd.N_away HO_6.out (fun _ hk => hk.2.2))) | (dsimp only; exact Kd.own_blk (Kd.N_away HO_6.out (fun _ hk => hk.2.2)))) _).trans (((cell_far (p := ⟨gb170, _, none⟩) (by first | exact Kd.own_blk (Kd.N_away HO_6.out (fun _ hk => hk.2.2)) | (rw [add_block]; exact Kd.own_blk (Kd.N_away HO_6.out (fun _ hk => hk.2.2))) | (show (Addr.add _ _).block ≠ _; rw [add_block]; exact Kd.own_blk (Kd.N_away HO_6.out (fun _ hk => hk.2.2))) | (dsimp only; exact Kd.own_blk (Kd.N_away HO_6.out (fun _ hk => hk.2.2)))) _).trans (hHeld.2.2.2.2.2.2.2.1)))))))))), ((cell_far (p := ⟨gb170, _, none⟩) (by first | exact Kd.own_blk (Kd.N_away HO_6.out (fun _ hk => hk.2.2)) | (rw [add_block]; exact Kd.own_blk (Kd.N_away HO_6.out (fun _ hk => hk.2.2))) | (show (Addr.add _ _).block ≠ _; rw [add_block]; exact Kd.own_blk (Kd.N_away HO_6.out (fun _ hk => hk.2.2))) | (dsimp only; exact Kd.own_blk (Kd.N_away HO_6.out (fun _ hk => hk.2.2)))) _).trans (((cell_far (p := ⟨gb170, _, none⟩) (by first | exact Kd.own_blk (Kd.N_away HO_6.out (fun _ hk => hk.2.2)) | (rw [add_block]; exact Kd.own_blk (Kd.N_away HO_6.out (fun _ hk => hk.2.2))) | (show (Addr.add _ _).block ≠ _; rw [add_block]; exact Kd.own_blk (Kd.N_away HO_6.out (fun _ hk => hk.2.2))) | (dsimp only; exact Kd.own_blk (Kd.N_away HO_6.out (fun _ hk => hk.2.2)))) _).trans (((cell_far (p := ⟨gb170, _, none⟩) (by first | exact Kd.own_blk (Kd.N_away HO_6.out (fun _ hk => hk.2.2)) | (rw [add_block]; exact Kd.own_blk (Kd.N_away HO_6.out (fun _ hk => hk.2.2))) | (show (Addr.add _ _).block ≠ _; rw [add_block]; exact Kd.own_blk (Kd.N_away HO_6.out (fun _ hk => hk.2.2))) | (dsimp only; exact Kd.own_blk (Kd.N_away HO_6.out (fun _ hk => hk.2.2)))) _).trans (((cell_far (p := ⟨gb170, _, none⟩) (by first | exact Kd.own_blk (Kd.N_away HO_6.out (fun _ hk => hk.2.2)) | (rw [add_block]; exact Kd.own_blk (Kd.N_away HO_6.out (fun _ hk => hk.2.2))) | (show (Addr.add _ _).block ≠ _; rw [add_block]; exact Kd.own_blk (Kd.N_away HO_6.out (fun _ hk => hk.2.2))) | (dsimp only; exact Kd.own_blk (Kd.N_away HO_6.out (fun _ hk => hk.2.2)))) _).trans (((cell_far (p := ⟨gb170, _, none⟩) (by first | exact Kd.own_blk (Kd.N_away HO_6.out (fun _ hk => hk.2.2)) | (rw [add_block]; exact Kd.own_blk (Kd.N_away HO_6.out (fun _ hk => hk.2.2))) | (show (Addr.add _ _).block ≠ _; rw [add_block]; exact Kd.own_blk (Kd.N_away HO_6.out (fun _ hk => hk.2.2))) | (dsimp only; exact Kd.own_blk (Kd.N_away HO_6.out (fun _ hk => hk.2.2)))) _).trans (hHeld.2.2.2.2.2.2.2.2.1)))))))))), ((cell_far (p := ⟨gb170, _, none⟩) (by first | exact Kd.own_blk (Kd.N_away HO_6.out (fun _ hk => hk.2.2)) | (rw [add_block]; exact Kd.own_blk (Kd.N_away HO_6.out (fun _ hk => hk.2.2))) | (show (Addr.add _ _).block ≠ _; rw [add_block]; exact Kd.own_blk (Kd.N_away HO_6.out (fun _ hk => hk.2.2))) | (dsimp only; exact Kd.own_blk (Kd.N_away HO_6.out (fun _ hk => hk.2.2)))) _).trans (((cell_far (p := ⟨gb170, _, none⟩) (by first | exact Kd.own_blk (Kd.N_away HO_6.out (fun _ hk => hk.2.2)) | (rw [add_block]; exact Kd.own_blk (Kd.N_away HO_6.out (fun _ hk => hk.2.2))) | (show (Addr.add _ _).block ≠ _; rw [add_block]; exact Kd.own_blk (Kd.N_away HO_6.out (fun _ hk => hk.2.2))) | (dsimp only; exact Kd.own_blk (Kd.N_away HO_6.out (fun _ hk => hk.2.2)))) _).trans (((cell_far (p := ⟨gb170, _, none⟩) (by first | exact Kd.own_blk (Kd.N_away HO_6.out (fun _ hk => hk.2.2)) | (rw [add_block]; exact Kd.own_blk (Kd.N_away HO_6.out (fun _ hk => hk.2.2))) | (show (Addr.add _ _).block ≠ _; rw [add_block]; exact Kd.own_blk (Kd.N_away HO_6.out (fun _ hk => hk.2.2))) | (dsimp only; exact Kd.own_blk (Kd.N_away HO_6.out (fun _ hk => hk.2.2)))) _).trans (((cell_far (p := ⟨gb170, _, none⟩) (by first | exact Kd.own_blk (Kd.N_away HO_6.out (fun _ hk => hk.2.2)) | (rw [add_block]; exact Kd.own_blk (Kd.N_away HO_6.out (fun _ hk => hk.2.2))) | (show (Addr.add _ _).block ≠ _; rw [add_block]; exact Kd.own_blk (Kd.N_away HO_6.out (fun _ hk => hk.2.2))) | (dsimp only; exact Kd.own_blk (Kd.N_away HO_6.out (fun _ hk => hk.2.2)))) _).trans (((cell_far (p := ⟨gb170, _, none⟩) (by first | exact Kd.own_blk (Kd.N_away HO_6.out (fun _ hk => hk.2.2)) | (rw [add_block]; exact Kd.own_blk (Kd.N_away HO_6.out (fun _ hk => hk.2.2))) | (show (Addr.add _ _).block ≠ _; rw [add_block]; exact Kd.own_blk (Kd.N_away HO_6.out (fun _ hk => hk.2.2))) | (dsimp only; exact Kd.own_blk (Kd.N_away HO_6.out (fun _ hk => hk.2.2)))) _).trans (hHeld.2.2.2.2.2.2.2.2.2))))))))))⟩ (fun hHeld => ?_)
                                clear hK K
                                refine done_ (done_of HT_.out (by kernel_rfl)) ?_
                                have hnb53 := NB169_170.out
                                have hnc53 := NB170_169.out
                                have hcz54_0 : w42.cell? ⟨gb169, 0, none⟩ = some (.int .i64 0) := (blk_cell BK169.out 0).trans rfl
                                have hcz54_1 : w42.cell? ⟨gb169, 1, none⟩ = some (.int .i64 0) := (blk_cell BK169.out 1).trans rfl
                                have hcz54_2 : w42.cell? ⟨gb169, 2, none⟩ = some (.int .i64 0) := (blk_cell BK169.out 2).trans rfl
                                have hcz54_3 : w42.cell? ⟨gb169, 3, none⟩ = some (.int .i64 0) := (blk_cell BK169.out 3).trans rfl
                                have hcz54_4 : w42.cell? ⟨gb169, 4, none⟩ = some (.slice none 0 0) := (blk_cell BK169.out 4).trans rfl
                                have hfz54_0 := blk_frozen BK169.out 0
                                have hfz54_1 := blk_frozen BK169.out 1
                                have hfz54_2 := blk_frozen BK169.out 2
                                have hfz54_3 := blk_frozen BK169.out 3
                                have hfz54_4 := blk_frozen BK169.out 4
                                have hcz55_0 : w42.cell? ⟨gb170, 0, none⟩ = some (.int .i64 0) := (blk_cell BK170.out 0).trans rfl
                                have hcz55_1 : w42.cell? ⟨gb170, 1, none⟩ = some (.int .i64 0) := (blk_cell BK170.out 1).trans rfl
                                have hcz55_2 : w42.cell? ⟨gb170, 2, none⟩ = some (.int .i64 0) := (blk_cell BK170.out 2).trans rfl
                                have hcz55_3 : w42.cell? ⟨gb170, 3, none⟩ = some (.int .i64 0) := (blk_cell BK170.out 3).trans rfl
                                have hcz55_4 : w42.cell? ⟨gb170, 4, none⟩ = some (.slice none 0 0) := (blk_cell BK170.out 4).trans rfl
                                have hfz55_0 := blk_frozen BK170.out 0
                                have hfz55_1 := blk_frozen BK170.out 1
                                have hfz55_2 := blk_frozen BK170.out 2
                                have hfz55_3 := blk_frozen BK170.out 3
                                have hfz55_4 := blk_frozen BK170.out 4
                                try go_wp2_with (first | (go_at_call 16; (with_reducible refine (laws_sameBools.calls kj14 _ _ ((rd_T34 t158 (ji25)).f4) _ _ ((rd_T34 t164 (ji28)).f4) true _ ?side1 ?side2 ?side3 ?side4 A34.out).mono ?_); (case side1 => repeat (first | exact ((Kd.V_reads' (by (with_reducible repeat (first | apply Kd.V_alloc | apply Kd.V_drewN | apply Kd.V_drew)); exact (Kd.V_mono (Kd.V_mono (Kd.V_far (p := ⟨gb170, 4, none⟩) (Kd.V_far (p := ⟨gb170, 3, none⟩) (Kd.V_far (p := ⟨gb170, 2, none⟩) (Kd.V_far (p := ⟨gb170, 1, none⟩) (Kd.V_far (p := ⟨gb170, 0, none⟩) (Kd.V_far (p := ⟨gb169, 4, none⟩) (Kd.V_far (p := ⟨gb169, 3, none⟩) (Kd.V_far (p := ⟨gb169, 2, none⟩) (Kd.V_far (p := ⟨gb169, 1, none⟩) (Kd.V_far (p := ⟨gb169, 0, none⟩) (Kd.V_mono (Kd.V_mono HL167_4.out (fun k_ hk => (⟨hk, hk.2.2.1⟩ : _ ∧ k_ ≠ gb169))) (fun k_ hk => (⟨hk, hk.1.2.2.2⟩ : _ ∧ k_ ≠ gb170))) (fun _ hk => hk.1.2) (.int .i64 ((rd_T34 t158 (ji25)).f0))) (fun _ hk => hk.1.2) (.int .i64 ((rd_T34 t158 (ji25)).f1))) (fun _ hk => hk.1.2) (.int .i64 ((rd_T34 t158 (ji25)).f2))) (fun _ hk => hk.1.2) (.int .i64 ((rd_T34 t158 (ji25)).f3))) (fun _ hk => hk.1.2) (.slice A167_4 ((rd_T34 t158 (ji25)).f4).length c167_4)) (fun _ hk => hk.2) (.int .i64 ((rd_T34 t164 (ji28)).f0))) (fun _ hk => hk.2) (.int .i64 ((rd_T34 t164 (ji28)).f1))) (fun _ hk => hk.2) (.int .i64 ((rd_T34 t164 (ji28)).f2))) (fun _ hk => hk.2) (.int .i64 ((rd_T34 t164 (ji28)).f3))) (fun _ hk => hk.2) (.slice A168_4 ((rd_T34 t164 (ji28)).f4).length c168_4)) (fun _ h_ => h_.1)) (fun _ h_ => h_.1)))).2.2) | (with_reducible refine Kd.C_alloc ?_ _) | (with_reducible refine Kd.C_drewN ?_ _) | (with_reducible refine Kd.C_drew ?_))); (case side2 => exact HC167_4.out); (case side3 => repeat (first | exact ((Kd.V_reads' (by (with_reducible repeat (first | apply Kd.V_alloc | apply Kd.V_drewN | apply Kd.V_drew)); exact (Kd.V_mono (Kd.V_mono (Kd.V_far (p := ⟨gb170, 4, none⟩) (Kd.V_far (p := ⟨gb170, 3, none⟩) (Kd.V_far (p := ⟨gb170, 2, none⟩) (Kd.V_far (p := ⟨gb170, 1, none⟩) (Kd.V_far (p := ⟨gb170, 0, none⟩) (Kd.V_far (p := ⟨gb169, 4, none⟩) (Kd.V_far (p := ⟨gb169, 3, none⟩) (Kd.V_far (p := ⟨gb169, 2, none⟩) (Kd.V_far (p := ⟨gb169, 1, none⟩) (Kd.V_far (p := ⟨gb169, 0, none⟩) (Kd.V_mono (Kd.V_mono HL168_4.out (fun k_ hk => (⟨hk, hk.2.2.1⟩ : _ ∧ k_ ≠ gb169))) (fun k_ hk => (⟨hk, hk.1.2.2.2⟩ : _ ∧ k_ ≠ gb170))) (fun _ hk => hk.1.2) (.int .i64 ((rd_T34 t158 (ji25)).f0))) (fun _ hk => hk.1.2) (.int .i64 ((rd_T34 t158 (ji25)).f1))) (fun _ hk => hk.1.2) (.int .i64 ((rd_T34 t158 (ji25)).f2))) (fun _ hk => hk.1.2) (.int .i64 ((rd_T34 t158 (ji25)).f3))) (fun _ hk => hk.1.2) (.slice A167_4 ((rd_T34 t158 (ji25)).f4).length c167_4)) (fun _ hk => hk.2) (.int .i64 ((rd_T34 t164 (ji28)).f0))) (fun _ hk => hk.2) (.int .i64 ((rd_T34 t164 (ji28)).f1))) (fun _ hk => hk.2) (.int .i64 ((rd_T34 t164 (ji28)).f2))) (fun _ hk => hk.2) (.int .i64 ((rd_T34 t164 (ji28)).f3))) (fun _ hk => hk.2) (.slice A168_4 ((rd_T34 t164 (ji28)).f4).length c168_4)) (fun _ h_ => h_.1)) (fun _ h_ => h_.1)))).2.2) | (with_reducible refine Kd.C_alloc ?_ _) | (with_reducible refine Kd.C_drewN ?_ _) | (with_reducible refine Kd.C_drew ?_))); (case side4 => exact HC168_4.out); rintro e w' ⟨rfl, ⟨nd, rfl⟩⟩) | (go_at_call 13; (with_reducible refine (laws_marksWork.calls  t172 _ A36.out).mono ?_); rintro e w56 ⟨rfl, hb⟩; have n0_ := Aside0.mk (Kd.N_below (by (with_reducible repeat (first | apply Kd.N_alloc | apply Kd.N_drewN | apply Kd.N_drew)); exact (Kd.N_mono (Kd.N_mono (Kd.N_far (p := ⟨gb170, 4, none⟩) (Kd.N_far (p := ⟨gb170, 3, none⟩) (Kd.N_far (p := ⟨gb170, 2, none⟩) (Kd.N_far (p := ⟨gb170, 1, none⟩) (Kd.N_far (p := ⟨gb170, 0, none⟩) (Kd.N_far (p := ⟨gb169, 4, none⟩) (Kd.N_far (p := ⟨gb169, 3, none⟩) (Kd.N_far (p := ⟨gb169, 2, none⟩) (Kd.N_far (p := ⟨gb169, 1, none⟩) (Kd.N_far (p := ⟨gb169, 0, none⟩) (Kd.N_mono (Kd.N_mono HO_5.out (fun k_ hk => (⟨hk, hk.2.1⟩ : _ ∧ k_ ≠ gb169))) (fun k_ hk => (⟨hk, hk.1.2.2⟩ : _ ∧ k_ ≠ gb170))) (fun _ hk => hk.1.2) (.int .i64 ((rd_T34 t158 (ji25)).f0))) (fun _ hk => hk.1.2) (.int .i64 ((rd_T34 t158 (ji25)).f1))) (fun _ hk => hk.1.2) (.int .i64 ((rd_T34 t158 (ji25)).f2))) (fun _ hk => hk.1.2) (.int .i64 ((rd_T34 t158 (ji25)).f3))) (fun _ hk => hk.1.2) (.slice A167_4 ((rd_T34 t158 (ji25)).f4).length c167_4)) (fun _ hk => hk.2) (.int .i64 ((rd_T34 t164 (ji28)).f0))) (fun _ hk => hk.2) (.int .i64 ((rd_T34 t164 (ji28)).f1))) (fun _ hk => hk.2) (.int .i64 ((rd_T34 t164 (ji28)).f2))) (fun _ hk => hk.2) (.int .i64 ((rd_T34 t164 (ji28)).f3))) (fun _ hk => hk.2) (.slice A168_4 ((rd_T34 t164 (ji28)).f4).length c168_4)) (fun _ h_ => h_.1)) (fun _ h_ => h_.1))) hb); have n1_ := Aside0.mk (Kd.N_below (by (with_reducible repeat (first | apply Kd.N_alloc | apply Kd.N_drewN | apply Kd.N_drew)); exact (Kd.N_mono (Kd.N_mono (Kd.N_far (p := ⟨gb170, 4, none⟩) (Kd.N_far (p := ⟨gb170, 3, none⟩) (Kd.N_far (p := ⟨gb170, 2, none⟩) (Kd.N_far (p := ⟨gb170, 1, none⟩) (Kd.N_far (p := ⟨gb170, 0, none⟩) (Kd.N_far (p := ⟨gb169, 4, none⟩) (Kd.N_far (p := ⟨gb169, 3, none⟩) (Kd.N_far (p := ⟨gb169, 2, none⟩) (Kd.N_far (p := ⟨gb169, 1, none⟩) (Kd.N_far (p := ⟨gb169, 0, none⟩) (Kd.N_mono (Kd.N_mono HO_6.out (fun k_ hk => (⟨hk, hk.2.1⟩ : _ ∧ k_ ≠ gb169))) (fun k_ hk => (⟨hk, hk.1.2.2⟩ : _ ∧ k_ ≠ gb170))) (fun _ hk => hk.1.2) (.int .i64 ((rd_T34 t158 (ji25)).f0))) (fun _ hk => hk.1.2) (.int .i64 ((rd_T34 t158 (ji25)).f1))) (fun _ hk => hk.1.2) (.int .i64 ((rd_T34 t158 (ji25)).f2))) (fun _ hk => hk.1.2) (.int .i64 ((rd_T34 t158 (ji25)).f3))) (fun _ hk => hk.1.2) (.slice A167_4 ((rd_T34 t158 (ji25)).f4).length c167_4)) (fun _ hk => hk.2) (.int .i64 ((rd_T34 t164 (ji28)).f0))) (fun _ hk => hk.2) (.int .i64 ((rd_T34 t164 (ji28)).f1))) (fun _ hk => hk.2) (.int .i64 ((rd_T34 t164 (ji28)).f2))) (fun _ hk => hk.2) (.int .i64 ((rd_T34 t164 (ji28)).f3))) (fun _ hk => hk.2) (.slice A168_4 ((rd_T34 t164 (ji28)).f4).length c168_4)) (fun _ h_ => h_.1)) (fun _ h_ => h_.1))) hb); have n2_ := Aside0.mk (Kd.V_below (by (with_reducible repeat (first | apply Kd.V_alloc | apply Kd.V_drewN | apply Kd.V_drew)); exact (Kd.V_mono (Kd.V_mono (Kd.V_far (p := ⟨gb170, 4, none⟩) (Kd.V_far (p := ⟨gb170, 3, none⟩) (Kd.V_far (p := ⟨gb170, 2, none⟩) (Kd.V_far (p := ⟨gb170, 1, none⟩) (Kd.V_far (p := ⟨gb170, 0, none⟩) (Kd.V_far (p := ⟨gb169, 4, none⟩) (Kd.V_far (p := ⟨gb169, 3, none⟩) (Kd.V_far (p := ⟨gb169, 2, none⟩) (Kd.V_far (p := ⟨gb169, 1, none⟩) (Kd.V_far (p := ⟨gb169, 0, none⟩) (Kd.V_mono (Kd.V_mono HL167_4.out (fun k_ hk => (⟨hk, hk.2.2.1⟩ : _ ∧ k_ ≠ gb169))) (fun k_ hk => (⟨hk, hk.1.2.2.2⟩ : _ ∧ k_ ≠ gb170))) (fun _ hk => hk.1.2) (.int .i64 ((rd_T34 t158 (ji25)).f0))) (fun _ hk => hk.1.2) (.int .i64 ((rd_T34 t158 (ji25)).f1))) (fun _ hk => hk.1.2) (.int .i64 ((rd_T34 t158 (ji25)).f2))) (fun _ hk => hk.1.2) (.int .i64 ((rd_T34 t158 (ji25)).f3))) (fun _ hk => hk.1.2) (.slice A167_4 ((rd_T34 t158 (ji25)).f4).length c167_4)) (fun _ hk => hk.2) (.int .i64 ((rd_T34 t164 (ji28)).f0))) (fun _ hk => hk.2) (.int .i64 ((rd_T34 t164 (ji28)).f1))) (fun _ hk => hk.2) (.int .i64 ((rd_T34 t164 (ji28)).f2))) (fun _ hk => hk.2) (.int .i64 ((rd_T34 t164 (ji28)).f3))) (fun _ hk => hk.2) (.slice A168_4 ((rd_T34 t164 (ji28)).f4).length c168_4)) (fun _ h_ => h_.1)) (fun _ h_ => h_.1))) hb); have n3_ := Aside0.mk (Kd.V_below (by (with_reducible repeat (first | apply Kd.V_alloc | apply Kd.V_drewN | apply Kd.V_drew)); exact (Kd.V_mono (Kd.V_mono (Kd.V_far (p := ⟨gb170, 4, none⟩) (Kd.V_far (p := ⟨gb170, 3, none⟩) (Kd.V_far (p := ⟨gb170, 2, none⟩) (Kd.V_far (p := ⟨gb170, 1, none⟩) (Kd.V_far (p := ⟨gb170, 0, none⟩) (Kd.V_far (p := ⟨gb169, 4, none⟩) (Kd.V_far (p := ⟨gb169, 3, none⟩) (Kd.V_far (p := ⟨gb169, 2, none⟩) (Kd.V_far (p := ⟨gb169, 1, none⟩) (Kd.V_far (p := ⟨gb169, 0, none⟩) (Kd.V_mono (Kd.V_mono HL168_4.out (fun k_ hk => (⟨hk, hk.2.2.1⟩ : _ ∧ k_ ≠ gb169))) (fun k_ hk => (⟨hk, hk.1.2.2.2⟩ : _ ∧ k_ ≠ gb170))) (fun _ hk => hk.1.2) (.int .i64 ((rd_T34 t158 (ji25)).f0))) (fun _ hk => hk.1.2) (.int .i64 ((rd_T34 t158 (ji25)).f1))) (fun _ hk => hk.1.2) (.int .i64 ((rd_T34 t158 (ji25)).f2))) (fun _ hk => hk.1.2) (.int .i64 ((rd_T34 t158 (ji25)).f3))) (fun _ hk => hk.1.2) (.slice A167_4 ((rd_T34 t158 (ji25)).f4).length c167_4)) (fun _ hk => hk.2) (.int .i64 ((rd_T34 t164 (ji28)).f0))) (fun _ hk => hk.2) (.int .i64 ((rd_T34 t164 (ji28)).f1))) (fun _ hk => hk.2) (.int .i64 ((rd_T34 t164 (ji28)).f2))) (fun _ hk => hk.2) (.int .i64 ((rd_T34 t164 (ji28)).f3))) (fun _ hk => hk.2) (.slice A168_4 ((rd_T34 t164 (ji28)).f4).length c168_4)) (fun _ h_ => h_.1)) (fun _ h_ => h_.1))) hb); have n4_ := Aside0.mk (blk_below (g := gb169) (o := .cells #[.int .i64 ((rd_T34 t158 (ji25)).f0), .int .i64 ((rd_T34 t158 (ji25)).f1), .int .i64 ((rd_T34 t158 (ji25)).f2), .int .i64 ((rd_T34 t158 (ji25)).f3), .slice A167_4 ((rd_T34 t158 (ji25)).f4).length c167_4] 34 (0, 0)) (by (with_reducible repeat (first | refine blk_drewN ?_ _ | refine blk_drew ?_ | refine blk_alloc ?_ _)); refine blk_far ?_ NB169_170.out _; (with_reducible repeat (first | refine blk_drewN ?_ _ | refine blk_drew ?_ | refine blk_alloc ?_ _)); refine blk_far ?_ NB169_170.out _; (with_reducible repeat (first | refine blk_drewN ?_ _ | refine blk_drew ?_ | refine blk_alloc ?_ _)); refine blk_far ?_ NB169_170.out _; (with_reducible repeat (first | refine blk_drewN ?_ _ | refine blk_drew ?_ | refine blk_alloc ?_ _)); refine blk_far ?_ NB169_170.out _; (with_reducible repeat (first | refine blk_drewN ?_ _ | refine blk_drew ?_ | refine blk_alloc ?_ _)); refine blk_far ?_ NB169_170.out _; (with_reducible repeat (first | refine blk_drewN ?_ _ | refine blk_drew ?_ | refine blk_alloc ?_ _)); refine blk_put (cs := #[.int .i64 ((rd_T34 t158 (ji25)).f0), .int .i64 ((rd_T34 t158 (ji25)).f1), .int .i64 ((rd_T34 t158 (ji25)).f2), .int .i64 ((rd_T34 t158 (ji25)).f3), .slice none 0 0]) ?_ 4 _ rfl; (with_reducible repeat (first | refine blk_drewN ?_ _ | refine blk_drew ?_ | refine blk_alloc ?_ _)); refine blk_put (cs := #[.int .i64 ((rd_T34 t158 (ji25)).f0), .int .i64 ((rd_T34 t158 (ji25)).f1), .int .i64 ((rd_T34 t158 (ji25)).f2), .int .i64 0, .slice none 0 0]) ?_ 3 _ rfl; (with_reducible repeat (first | refine blk_drewN ?_ _ | refine blk_drew ?_ | refine blk_alloc ?_ _)); refine blk_put (cs := #[.int .i64 ((rd_T34 t158 (ji25)).f0), .int .i64 ((rd_T34 t158 (ji25)).f1), .int .i64 0, .int .i64 0, .slice none 0 0]) ?_ 2 _ rfl; (with_reducible repeat (first | refine blk_drewN ?_ _ | refine blk_drew ?_ | refine blk_alloc ?_ _)); refine blk_put (cs := #[.int .i64 ((rd_T34 t158 (ji25)).f0), .int .i64 0, .int .i64 0, .int .i64 0, .slice none 0 0]) ?_ 1 _ rfl; (with_reducible repeat (first | refine blk_drewN ?_ _ | refine blk_drew ?_ | refine blk_alloc ?_ _)); refine blk_put (cs := #[.int .i64 0, .int .i64 0, .int .i64 0, .int .i64 0, .slice none 0 0]) ?_ 0 _ rfl; (with_reducible repeat (first | refine blk_drewN ?_ _ | refine blk_drew ?_ | refine blk_alloc ?_ _)); exact BK169.out) hb); have n5_ := Aside0.mk (blk_below (g := gb170) (o := .cells #[.int .i64 ((rd_T34 t164 (ji28)).f0), .int .i64 ((rd_T34 t164 (ji28)).f1), .int .i64 ((rd_T34 t164 (ji28)).f2), .int .i64 ((rd_T34 t164 (ji28)).f3), .slice A168_4 ((rd_T34 t164 (ji28)).f4).length c168_4] 34 (0, 0)) (by (with_reducible repeat (first | refine blk_drewN ?_ _ | refine blk_drew ?_ | refine blk_alloc ?_ _)); refine blk_put (cs := #[.int .i64 ((rd_T34 t164 (ji28)).f0), .int .i64 ((rd_T34 t164 (ji28)).f1), .int .i64 ((rd_T34 t164 (ji28)).f2), .int .i64 ((rd_T34 t164 (ji28)).f3), .slice none 0 0]) ?_ 4 _ rfl; (with_reducible repeat (first | refine blk_drewN ?_ _ | refine blk_drew ?_ | refine blk_alloc ?_ _)); refine blk_put (cs := #[.int .i64 ((rd_T34 t164 (ji28)).f0), .int .i64 ((rd_T34 t164 (ji28)).f1), .int .i64 ((rd_T34 t164 (ji28)).f2), .int .i64 0, .slice none 0 0]) ?_ 3 _ rfl; (with_reducible repeat (first | refine blk_drewN ?_ _ | refine blk_drew ?_ | refine blk_alloc ?_ _)); refine blk_put (cs := #[.int .i64 ((rd_T34 t164 (ji28)).f0), .int .i64 ((rd_T34 t164 (ji28)).f1), .int .i64 0, .int .i64 0, .slice none 0 0]) ?_ 2 _ rfl; (with_reducible repeat (first | refine blk_drewN ?_ _ | refine blk_drew ?_ | refine blk_alloc ?_ _)); refine blk_put (cs := #[.int .i64 ((rd_T34 t164 (ji28)).f0), .int .i64 0, .int .i64 0, .int .i64 0, .slice none 0 0]) ?_ 1 _ rfl; (with_reducible repeat (first | refine blk_drewN ?_ _ | refine blk_drew ?_ | refine blk_alloc ?_ _)); refine blk_put (cs := #[.int .i64 0, .int .i64 0, .int .i64 0, .int .i64 0, .slice none 0 0]) ?_ 0 _ rfl; (with_reducible repeat (first | refine blk_drewN ?_ _ | refine blk_drew ?_ | refine blk_alloc ?_ _)); refine blk_far ?_ NB170_169.out _; (with_reducible repeat (first | refine blk_drewN ?_ _ | refine blk_drew ?_ | refine blk_alloc ?_ _)); refine blk_far ?_ NB170_169.out _; (with_reducible repeat (first | refine blk_drewN ?_ _ | refine blk_drew ?_ | refine blk_alloc ?_ _)); refine blk_far ?_ NB170_169.out _; (with_reducible repeat (first | refine blk_drewN ?_ _ | refine blk_drew ?_ | refine blk_alloc ?_ _)); refine blk_far ?_ NB170_169.out _; (with_reducible repeat (first | refine blk_drewN ?_ _ | refine blk_drew ?_ | refine blk_alloc ?_ _)); refine blk_far ?_ NB170_169.out _; (with_reducible repeat (first | refine blk_drewN ?_ _ | refine blk_drew ?_ | refine blk_alloc ?_ _)); exact BK170.out) hb); have n6_ := Aside0.mk (below_step (by repeat (first | (with_reducible first | exact HB.out | apply below_alloc | apply pw_below_drewN | apply below_drew1 | refine below_set ?_ GE169.out | refine below_set ?_ GE170.out) | exact HB.out)) hb); clear HO_5; clear HO_6; clear HL167_4; clear HL168_4; clear BK169; clear BK170; clear HB; have HO_5 := n0_; have HO_6 := n1_; have HL167_4 := n2_; have HL168_4 := n3_; have BK169 := n4_; have BK170 := n5_; have HB := n6_; clear n0_ n1_ n2_ n3_ n4_ n5_ n6_; (try clear hb); (try clear hb2); (try clear hk); (try clear hi)))
                                go_ret
                                exact ⟨by first | rfl | (simp [errW_none, errW_some] <;> rfl) | (simp only [← hji25, ← hji28]; first | rfl | (simp [errW_none, errW_some] <;> rfl)) | (simp [*, errW_none, errW_some] <;> rfl), by repeat (first | (with_reducible first | exact HB.out | apply below_alloc | apply pw_below_drewN | apply below_drew1 | refine below_set ?_ GE169.out | refine below_set ?_ GE170.out) | exact HB.out)⟩
                              · replace c35 := Bool.eq_false_iff.mpr c35
                                subst c35
                                have H1 : (some false) = some r := by rw [if_neg (show ¬ (false = true) by decide)] at H; exact H
                                exact absurd (H1.trans (congrArg some hrt.out)) (by simp)
                            · rw [if_neg c33] at H
                              exact absurd (H.trans (congrArg some hrt.out)) (by simp)
                          · rw [if_neg c32] at H
                            exact absurd (H.trans (congrArg some hrt.out)) (by simp)
                        · rw [if_neg c31] at H
                          exact absurd (H.trans (congrArg some hrt.out)) (by simp)
                      · rw [if_neg c30] at H
                        exact absurd H (by simp)
                    · rw [if_neg c29] at H
                      exact absurd H (by simp)
                  · rw [if_neg c27] at H
                    exact absurd H (by simp)
                · rw [if_neg c26] at H
                  exact absurd H (by simp)
  · replace c3 := Bool.eq_false_iff.mpr c3
    subst c3
    have H1 : (some true) = some r := by rw [if_neg (show ¬ (false = true) by decide)] at H; exact H
    clear H
    have H := H1
    clear H1
    obtain rfl := Option.some.inj H
    go_enter Try.func4, Try.ntmps4
    go_wp2_with (first | ((with_reducible refine gate_callee (f := 11) rfl ?_); refine goesL_ (some 10) rfl rfl Try.func11 (by kernel_rfl) rfl #[.slice A0 l0.length c0] rfl (by (try simp only [List.map_toArray, List.map_cons, List.map_nil]); first | done | rfl | (simp only [List.length_drop, List.length_take]; rfl)) ?_; (with_reducible refine (laws_zzFits1.calls k _ _ l0 false _ ?side1 ?side2 A2.out).mono ?_); (case side1 => repeat (first | exact HR0.out | (with_reducible refine Kd.C_alloc ?_ _) | (with_reducible refine Kd.C_drewN ?_ _) | (with_reducible refine Kd.C_drew ?_))); (case side2 => exact HC0.out); rintro e w133 ⟨rfl, hb⟩; refine ⟨_, rfl, ?_⟩; have n0_ := Aside0.mk (below_step (by repeat (first | (with_reducible first | exact HB.out | apply below_alloc | apply pw_below_drewN | apply below_drew1) | exact HB.out)) hb); clear HB; have HB := n0_; clear n0_; (try clear hb); (try clear hb2); (try clear hk); (try clear hi)))
    go_ret
    exact ⟨by first | rfl | (simp [errW_none, errW_some] <;> rfl) | (simp [*, errW_none, errW_some] <;> rfl), by repeat (first | (with_reducible first | exact HB.out | apply below_alloc | apply pw_below_drewN | apply below_drew1) | exact HB.out)⟩

end Go.Proofs.Ytimakagmhikhfaa.M
