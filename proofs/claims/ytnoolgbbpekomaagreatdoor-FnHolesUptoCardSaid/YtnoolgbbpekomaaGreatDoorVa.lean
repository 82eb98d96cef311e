/- As the print has them, turned for the tree: laws_FnHoles. -/
import Derived.Test.YtnoolgbbpekomaaGreatDoorVz
import Derived.Test.YtnoolgbbpekomaaGreatDoorUa
import Derived.Test.YtnoolgbbpekomaaGreatDoorVw
namespace Go.Proofs.YtnoolgbbpekomaaGreatDoor.T
open Go.RowKit YtnoolgbbpekomaaGreatDoorW.PrintWords YtnoolgbbpekomaaGreatDoorW.PrintLast YtnoolgbbpekomaaGreatDoorW.PrintMore
attribute [local go_sem] max2_int min2_int max_two min_two max_three min_three max_four min_four   -- for this text's walks alone
set_option linter.unusedVariables false
set_option linter.unusedSimpArgs false
/-! ### laws_FnHoles: function 3 -/
mutual
noncomputable def laws_FnHoles.l0 : Nat → List (S67) → List Bool → Int → Option (Bool)
  | 0, _, _, _ => none
  | k + 1, x0, x7, x9 => if x9 ≤ 2001 then (laws_FnHoles.j1 k x0 x7 x9 true) else (laws_FnHoles.j1 k x0 x7 x9 (decide (x9 < (x7.length : Int))))
noncomputable def laws_FnHoles.j1 : Nat → List (S67) → List Bool → Int → Bool → Option (Bool)
  | 0, _, _, _, _ => none
  | k + 1, x0, x7, x9, x34 => if x34 = true then ((laws_hole.f x7 x9).bind fun t200 => ((spec_Hole.f k x0 x9).bind fun t201 => (if (t200 != t201) = true then (some false) else (laws_FnHoles.l0 k x0 x7 (wrap64 (x9 + 1)))))) else ((laws_triesWork.f k).bind fun t199 => (some t199))
end
noncomputable def laws_FnHoles.f (k : Nat) (l0 : List (S67)) (a1 : Bool) (a2 : Bool) : Option (Bool) := if (l0.length : Int) > 2147483647 then (some true) else ((spec_SpansOk.f k l0).bind fun t192 => (if t192 = true then ((spec_HolesText.f k l0 a1 a2).bind fun t194 => ((impl_Holes.f t194).bind fun bt195 => (if bt195.2 = true then (laws_FnHoles.l0 k l0 bt195.1 0) else (some false)))) else ((laws_triesWork.f k).bind fun t193 => (some t193))))
theorem laws_FnHoles.mono_l : ∀ k, (∀ y0 y1 y2, LeO (laws_FnHoles.l0 k y0 y1 y2) (laws_FnHoles.l0 (k + 1) y0 y1 y2)) ∧ (∀ y0 y1 y2 y3, LeO (laws_FnHoles.j1 k y0 y1 y2 y3) (laws_FnHoles.j1 (k + 1) y0 y1 y2 y3))
  | 0 => ⟨fun _ _ _ r h => by simp [laws_FnHoles.l0] at h, fun _ _ _ _ r h => by simp [laws_FnHoles.j1] at h⟩
  | k + 1 => by
    obtain ⟨ih0, ih1⟩ := laws_FnHoles.mono_l k
    refine ⟨?_, ?_⟩
    · intro y0 y1 y2
      unfold laws_FnHoles.l0
      repeat' first
      | (with_reducible exact ih0 _ _ _)
      | (with_reducible exact ih1 _ _ _ _)
      | (with_reducible exact laws_triesWork.mono _)
      | (with_reducible exact spec_Hole.mono _ _ _)
      | (with_reducible exact spec_HolesText.mono _ _ _ _)
      | (with_reducible exact spec_SpansOk.mono _ _)
      | (with_reducible exact LeO.refl _)
      | (with_reducible exact LeO.none _)
      | (with_reducible refine LeO.ite ?_ ?_)
      | (with_reducible refine LeO.bind ?_ (fun _ => ?_))
      | exact ih0 _ _ _
      | exact ih1 _ _ _ _
      | exact laws_triesWork.mono _
      | exact spec_Hole.mono _ _ _
      | exact spec_HolesText.mono _ _ _ _
      | exact spec_SpansOk.mono _ _
      | exact LeO.none _
      | refine LeO.ite ?_ ?_
      | refine LeO.bind ?_ (fun _ => ?_)
    · intro y0 y1 y2 y3
      unfold laws_FnHoles.j1
      repeat' first
      | (with_reducible exact ih0 _ _ _)
      | (with_reducible exact ih1 _ _ _ _)
      | (with_reducible exact laws_triesWork.mono _)
      | (with_reducible exact spec_Hole.mono _ _ _)
      | (with_reducible exact spec_HolesText.mono _ _ _ _)
      | (with_reducible exact spec_SpansOk.mono _ _)
      | (with_reducible exact LeO.refl _)
      | (with_reducible exact LeO.none _)
      | (with_reducible refine LeO.ite ?_ ?_)
      | (with_reducible refine LeO.bind ?_ (fun _ => ?_))
      | exact ih0 _ _ _
      | exact ih1 _ _ _ _
      | exact laws_triesWork.mono _
      | exact spec_Hole.mono _ _ _
      | exact spec_HolesText.mono _ _ _ _
      | exact spec_SpansOk.mono _ _
      | exact LeO.none _
      | refine LeO.ite ?_ ?_
      | refine LeO.bind ?_ (fun _ => ?_)
theorem laws_FnHoles.mono : ∀ a0 a1 a2 k, LeO (laws_FnHoles.f k a0 a1 a2) (laws_FnHoles.f (k + 1) a0 a1 a2) := by
  intro a0 a1 a2 k
  obtain ⟨ih0, ih1⟩ := laws_FnHoles.mono_l k
  unfold laws_FnHoles.f
  repeat' first
      | (with_reducible exact ih0 _ _ _)
      | (with_reducible exact ih1 _ _ _ _)
      | (with_reducible exact laws_triesWork.mono _)
      | (with_reducible exact spec_Hole.mono _ _ _)
      | (with_reducible exact spec_HolesText.mono _ _ _ _)
      | (with_reducible exact spec_SpansOk.mono _ _)
      | (with_reducible exact LeO.refl _)
      | (with_reducible exact LeO.none _)
      | (with_reducible refine LeO.ite ?_ ?_)
      | (with_reducible refine LeO.bind ?_ (fun _ => ?_))
      | exact ih0 _ _ _
      | exact ih1 _ _ _ _
      | exact laws_triesWork.mono _
      | exact spec_Hole.mono _ _ _
      | exact spec_HolesText.mono _ _ _ _
      | exact spec_SpansOk.mono _ _
      | exact LeO.none _
      | refine LeO.ite ?_ ?_
      | refine LeO.bind ?_ (fun _ => ?_)
set_option maxHeartbeats 8000000 in
set_option maxRecDepth 100000 in
theorem laws_FnHoles.calls (k : Nat) (A0 : Option Addr) (c0 : Nat) (l0 : List (S67)) (a1 : Bool) (a2 : Bool) (r : Bool) (w : World) (hr0 : Kd.C k67 w A0 l0.length l0) (hc0 : l0.length ≤ c0) (hl : Pi.Laid w) (h : laws_FnHoles.f k l0 a1 a2 = some r) :
    Calls Tryz.prog 3 #[.slice A0 l0.length c0, .bool a1, .bool a2] w fun e w' => e = .returned (.bool r) ∧ Below w.heap.size w w' := by
  have HR0 := Aside0.mk hr0
  have HC0 := Aside0.mk hc0
  clear hr0 hc0
  have HLA := Aside0.mk hl
  clear hl
  have HB := Aside0.mk (Below.refl w.heap.size w)
  have H : (if (l0.length : Int) > 2147483647 then (some true) else ((spec_SpansOk.f k l0).bind fun t192 => (if t192 = true then ((spec_HolesText.f k l0 a1 a2).bind fun t194 => ((impl_Holes.f t194).bind fun bt195 => (if bt195.2 = true then (laws_FnHoles.l0 k l0 bt195.1 0) else (some false)))) else ((laws_triesWork.f k).bind fun t193 => (some t193))))) = some r := h
  clear h
  by_cases c4 : (l0.length : Int) > 2147483647
  · rw [if_pos c4] at H
    have c4b0 : decide (2147483647 < (l0.length : Int)) = true := decide_eq_true c4
    have c4b1 : decide (2147483647 < l0.length) = true := decide_eq_true (by omega)
    clear c4
    obtain rfl := Option.some.inj H
    go_enter Tryz.func3, Tryz.ntmps3
    go_wp2
    go_ret
    exact ⟨by first | rfl | (simp [errW_none, errW_some] <;> rfl) | (simp [*, errW_none, errW_some] <;> rfl), by repeat (first | (with_reducible first | exact HB.out | apply below_alloc | apply pw_below_drewN | apply below_drew1) | exact HB.out)⟩
  · rw [if_neg c4] at H
    have c4b0 : decide (2147483647 < (l0.length : Int)) = false := decide_eq_false c4
    have c4b1 : decide (2147483647 < l0.length) = false := decide_eq_false (by omega)
    clear c4
    replace H := Option.bind_eq_some_iff.mp H
    obtain ⟨t192, A50, H⟩ := H
    replace H : (if t192 = true then ((spec_HolesText.f k l0 a1 a2).bind fun t194 => ((impl_Holes.f t194).bind fun bt195 => (if bt195.2 = true then (laws_FnHoles.l0 k l0 bt195.1 0) else (some false)))) else ((laws_triesWork.f k).bind fun t193 => (some t193))) = some r := H
    have A5 := Aside0.mk A50
    clear A50
    by_cases c6 : t192 = true
    · subst c6
      have H1 : ((spec_HolesText.f k l0 a1 a2).bind fun t194 => ((impl_Holes.f t194).bind fun bt195 => (if bt195.2 = true then (laws_FnHoles.l0 k l0 bt195.1 0) else (some false)))) = some r := by rw [if_pos rfl] at H; exact H
      clear H
      have H := H1
      clear H1
      replace H := Option.bind_eq_some_iff.mp H
      obtain ⟨t194, A70, H⟩ := H
      replace H : ((impl_Holes.f t194).bind fun bt195 => (if bt195.2 = true then (laws_FnHoles.l0 k l0 bt195.1 0) else (some false))) = some r := H
      have A7 := Aside0.mk A70
      clear A70
      replace H := Option.bind_eq_some_iff.mp H
      obtain ⟨⟨t195, t196⟩, A80, H⟩ := H
      replace H : (if t196 = true then (laws_FnHoles.l0 k l0 t195 0) else (some false)) = some r := H
      have A8 := Aside0.mk A80
      clear A80
      by_cases c9 : t196 = true
      · subst c9
        have H1 : (laws_FnHoles.l0 k l0 t195 0) = some r := by rw [if_pos rfl] at H; exact H
        clear H
        have H := H1
        clear H1
        have H' := Aside0.mk H
        clear H
        go_enter Tryz.func3, Tryz.ntmps3
        go_wp2_with (first | ((with_reducible refine gate_callee (f := 15) rfl ?_); refine goesL_ (some 14) rfl rfl Tryz.func15 (by kernel_rfl) rfl #[.slice A0 l0.length c0] rfl (by (try simp only [List.map_toArray, List.map_cons, List.map_nil]); first | done | rfl | (simp only [List.length_drop, List.length_take]; rfl)) ?_; (with_reducible refine (spec_SpansOk.calls k _ _ l0 true _ ?side1 ?side2 A5.out).mono ?_); (case side1 => exact XC HR0.out); (case side2 => exact HC0.out); rintro e w10 ⟨rfl, hb⟩; refine ⟨_, rfl, ?_⟩; have n0_ := Aside0.mk (below_step (Xb HB.out) hb); clear HB; have HB := n0_; clear n0_; (try clear hb); (try clear hb2); (try clear hk); (try clear hi)) | ((with_reducible refine gate_callee (f := 18) rfl ?_); refine goesL_ (some 21) rfl rfl Tryz.func18 (by kernel_rfl) rfl #[.slice A0 l0.length c0, .bool a1, .bool a2] rfl (by (try simp only [List.map_toArray, List.map_cons, List.map_nil]); first | done | rfl | (simp only [List.length_drop, List.length_take]; rfl)) ?_; (with_reducible refine (spec_HolesText.calls k _ _ l0 a1 a2 t194 _ ?side1 ?side2 A7.out).mono ?_); (case side1 => exact XC (Kd.C_below HR0.out HB.out)); (case side2 => exact HC0.out); rintro e w11 ⟨rfl, hb⟩; refine ⟨_, rfl, ?_⟩; have n0_ := Aside0.mk (below_step (Xb HB.out) hb); clear HB; have HB := n0_; clear n0_; (try clear hb); (try clear hb2); (try clear hk); (try clear hi)) | ((with_reducible refine gate_callee (f := 17) rfl ?_); refine goesL_ (some 22) rfl rfl Tryz.func17 (by kernel_rfl) rfl #[.string t194] rfl (by (try simp only [List.map_toArray, List.map_cons, List.map_nil]); first | done | rfl | (simp only [List.length_drop, List.length_take]; rfl)) ?_; (with_reducible refine (impl_Holes.calls t194 t195 true _ ?sidel A8.out).mono ?_); (case sidel => exact Pi.Laid.below HLA.out (Xb HB.out)); rintro e w12 ⟨v197, rfl, ho0, hb⟩; refine ⟨_, rfl, ?_⟩; have n0_ := Aside0.mk (Kd.R_lower ho0 (below_size (Xb HB.out))); have n1_ := Aside0.mk (below_step (Xb HB.out) hb); clear HB; have HO198 := n0_; have HB := n1_; clear n0_ n1_; (try clear hb); (try clear hb2); (try clear hk); (try clear hi); (try clear ho0)))
        go_loopg [9] k (fun kq v9 w' => ∃ (x9_1 : Int), v9 = .int .i64 x9_1 ∧ Aside0 (laws_FnHoles.l0 kq l0 t195 x9_1 = some r) ∧ Aside0 (kq ≤ k) ∧ Aside0 (Kd.R Kd.bool 4 w' w.heap.size (fun _ => True) v197 t195) ∧ Aside0 (Below w.heap.size w w'))
        case atStart => exact ⟨(0), (by first | rfl | (simp; done) | (simp [*]; done)), H', ⟨Nat.le_refl _⟩, ⟨by (with_reducible repeat (first | apply Kd.R_alloc | apply Kd.R_drewN | apply Kd.R_drew)); exact HO198.out⟩, ⟨by repeat (first | (with_reducible first | exact HB.out | apply below_alloc | apply pw_below_drewN | apply below_drew1) | exact HB.out)⟩⟩
        case round =>
          clear H'
          try clear c1
          try clear p2
          try clear c3
          try clear c4
          try clear c4b0
          try clear c4b1
          try clear c6
          try clear c9
          obtain ⟨x9_1, rfl, HA, HK1, HO_7, HB⟩ := hrel
          cases gk with
          | zero => exact absurd HA.out (by simp [laws_FnHoles.l0])
          | succ k1 =>
            have H := HA.out
            clear HA
            simp only [laws_FnHoles.l0] at H
            have HC13 := Aside0.mk H
            clear H
            go_upto_region 9 with (fail)
            go_cut [34] (fun v34 wc => ∃ (kq : Nat) (x34_12 : Bool), v34 = .bool x34_12 ∧ Aside0 (laws_FnHoles.j1 kq l0 t195 x9_1 x34_12 = some r) ∧ Aside0 (kq ≤ k1) ∧ Aside0 (Kd.R Kd.bool 4 wc w.heap.size (fun _ => True) v197 t195) ∧ Aside0 (Below w.heap.size w wc))
            case first =>
              have H := HC13.out
              clear HC13
              by_cases c14 : x9_1 ≤ 2001
              · rw [if_pos c14] at H
                have c14b0 : decide (x9_1 ≤ 2001) = true := decide_eq_true c14
                clear c14
                (first | rw [c14b0] | (simp only [i64_w, i32_w]; rw [c14b0]) | skip)
                have H' := Aside0.mk H
                clear H
                go_wp2
                go_meet
                case rel => exact ⟨_, (true), (by first | rfl | (simp; done) | (simp [*]; done)), H', ⟨by have := HK1.out; first | omega | exact Nat.le_refl _⟩, ⟨by (with_reducible repeat (first | apply Kd.R_alloc | apply Kd.R_drewN | apply Kd.R_drew)); exact HO_7.out⟩, ⟨by repeat (first | (with_reducible first | exact HB.out | apply below_alloc | apply pw_below_drewN | apply below_drew1) | exact HB.out)⟩⟩
              · rw [if_neg c14] at H
                have c14b0 : decide (x9_1 ≤ 2001) = false := decide_eq_false c14
                clear c14
                (first | rw [c14b0] | (simp only [i64_w, i32_w]; rw [c14b0]) | skip)
                have H' := Aside0.mk H
                clear H
                obtain ⟨Ao15, co15, eo15⟩ := Kd.R_slice HO_7.out
                subst eo15
                go_wp2
                go_meet
                case rel => exact ⟨_, (decide (x9_1 < (t195.length : Int))), (by first | rfl | (simp; done) | (simp [*]; done)), H', ⟨by have := HK1.out; first | omega | exact Nat.le_refl _⟩, ⟨by (with_reducible repeat (first | apply Kd.R_alloc | apply Kd.R_drewN | apply Kd.R_drew)); exact HO_7.out⟩, ⟨by repeat (first | (with_reducible first | exact HB.out | apply below_alloc | apply pw_below_drewN | apply below_drew1) | exact HB.out)⟩⟩
            case rest =>
              clear HC13
              try clear c1
              try clear p2
              try clear c3
              try clear c4
              try clear c4b0
              try clear c4b1
              try clear c6
              try clear c9
              try clear c14
              try clear c14b0
              try clear c15
              try clear p2
              obtain ⟨kq, x34_12, rfl, HA, HJ12, HO_7, HB⟩ := hcut
              cases kq with
              | zero => exact absurd HA.out (by simp [laws_FnHoles.j1])
              | succ kj12 =>
                have H := HA.out
                clear HA
                simp only [laws_FnHoles.j1] at H
                by_cases c16 : x34_12 = true
                · subst c16
                  have H1 : ((laws_hole.f t195 x9_1).bind fun t200 => ((spec_Hole.f kj12 l0 x9_1).bind fun t201 => (if (t200 != t201) = true then (some false) else (laws_FnHoles.l0 kj12 l0 t195 (wrap64 (x9_1 + 1)))))) = some r := by rw [if_pos rfl] at H; exact H
                  clear H
                  have H := H1
                  clear H1
                  replace H := Option.bind_eq_some_iff.mp H
                  obtain ⟨t200, A170, H⟩ := H
                  replace H : ((spec_Hole.f kj12 l0 x9_1).bind fun t201 => (if (t200 != t201) = true then (some false) else (laws_FnHoles.l0 kj12 l0 t195 (wrap64 (x9_1 + 1))))) = some r := H
                  have A17 := Aside0.mk A170
                  clear A170
                  replace H := Option.bind_eq_some_iff.mp H
                  obtain ⟨t201, A180, H⟩ := H
                  replace H : (if (t200 != t201) = true then (some false) else (laws_FnHoles.l0 kj12 l0 t195 (wrap64 (x9_1 + 1)))) = some r := H
                  have A18 := Aside0.mk A180
                  clear A180
                  by_cases c19 : (t200 != t201) = true
                  · rw [if_pos c19] at H
                    have c19b0 : (t200 != t201) = true := c19
                    (try (have c19b1 : decide (t200 = t201) = false := by simpa using c19))
                    (try (have c19b2 : (t200 == t201) = false := by simpa using c19))
                    (try (have c19b3 : ¬ (t200 = t201) := by simpa using c19))
                    clear c19
                    obtain rfl := Option.some.inj H
                    obtain ⟨Ao20, co20, eo20⟩ := Kd.R_slice HO_7.out
                    subst eo20
                    go_wp2_with (first | ((with_reducible refine gate_callee (f := 19) rfl ?_); refine goesL_ (some 39) rfl rfl Tryz.func19 (by kernel_rfl) rfl #[.slice Ao20 t195.length co20, .int .i64 x9_1] rfl (by (try simp only [List.map_toArray, List.map_cons, List.map_nil]); first | done | rfl | (simp only [List.length_drop, List.length_take]; rfl)) ?_; (with_reducible refine (laws_hole.calls _ _ t195 x9_1 t200 _ ?side1 ?side2 A17.out).mono ?_); (case side1 => exact XC (Kd.R_reads' HO_7.out).2.2); (case side2 => exact (Kd.R_reads' HO_7.out).2.1); rintro e w' ⟨rfl, ⟨nd, rfl⟩⟩; refine ⟨_, rfl, ?_⟩) | ((with_reducible refine gate_callee (f := 20) rfl ?_); refine goesL_ (some 42) rfl rfl Tryz.func20 (by kernel_rfl) rfl #[.slice A0 l0.length c0, .int .i64 x9_1] rfl (by (try simp only [List.map_toArray, List.map_cons, List.map_nil]); first | done | rfl | (simp only [List.length_drop, List.length_take]; rfl)) ?_; (with_reducible refine (spec_Hole.calls kj12 _ _ l0 x9_1 t201 _ ?side1 ?side2 A18.out).mono ?_); (case side1 => exact XC (Kd.C_below HR0.out (Xb HB.out))); (case side2 => exact HC0.out); rintro e w21 ⟨rfl, hb⟩; refine ⟨_, rfl, ?_⟩; have n0_ := Aside0.mk (Kd.R_below (XR HO_7.out) hb); have n1_ := Aside0.mk (below_step (Xb HB.out) hb); clear HO_7; clear HB; have HO_7 := n0_; have HB := n1_; clear n0_ n1_; (try clear hb); (try clear hb2); (try clear hk); (try clear hi)))
                    go_ret
                    exact ⟨by first | rfl | (simp [errW_none, errW_some] <;> rfl) | (simp [*, errW_none, errW_some] <;> rfl), by repeat (first | (with_reducible first | exact HB.out | apply below_alloc | apply pw_below_drewN | apply below_drew1) | exact HB.out)⟩
                  · rw [if_neg c19] at H
                    have c19b0 : (t200 != t201) = false := by simpa using c19
                    (try (have c19b1 : decide (t200 = t201) = true := by simpa using c19))
                    (try (have c19b2 : (t200 == t201) = true := by simpa using c19))
                    clear c19
                    have H' := Aside0.mk H
                    clear H
                    obtain ⟨Ao22, co22, eo22⟩ := Kd.R_slice HO_7.out
                    subst eo22
                    go_wp2_with (first | ((with_reducible refine gate_callee (f := 19) rfl ?_); refine goesL_ (some 39) rfl rfl Tryz.func19 (by kernel_rfl) rfl #[.slice Ao22 t195.length co22, .int .i64 x9_1] rfl (by (try simp only [List.map_toArray, List.map_cons, List.map_nil]); first | done | rfl | (simp only [List.length_drop, List.length_take]; rfl)) ?_; (with_reducible refine (laws_hole.calls _ _ t195 x9_1 t200 _ ?side1 ?side2 A17.out).mono ?_); (case side1 => exact XC (Kd.R_reads' HO_7.out).2.2); (case side2 => exact (Kd.R_reads' HO_7.out).2.1); rintro e w' ⟨rfl, ⟨nd, rfl⟩⟩; refine ⟨_, rfl, ?_⟩) | ((with_reducible refine gate_callee (f := 20) rfl ?_); refine goesL_ (some 42) rfl rfl Tryz.func20 (by kernel_rfl) rfl #[.slice A0 l0.length c0, .int .i64 x9_1] rfl (by (try simp only [List.map_toArray, List.map_cons, List.map_nil]); first | done | rfl | (simp only [List.length_drop, List.length_take]; rfl)) ?_; (with_reducible refine (spec_Hole.calls kj12 _ _ l0 x9_1 t201 _ ?side1 ?side2 A18.out).mono ?_); (case side1 => exact XC (Kd.C_below HR0.out (Xb HB.out))); (case side2 => exact HC0.out); rintro e w23 ⟨rfl, hb⟩; refine ⟨_, rfl, ?_⟩; have n0_ := Aside0.mk (Kd.R_below (XR HO_7.out) hb); have n1_ := Aside0.mk (below_step (Xb HB.out) hb); clear HO_7; clear HB; have HO_7 := n0_; have HB := n1_; clear n0_ n1_; (try clear hb); (try clear hb2); (try clear hk); (try clear hi)))
                    go_roundg kj12
                    case measure => have := HK1.out; have := HJ12.out; omega
                    case rel => exact ⟨(wrap64 (x9_1 + 1)), (by first | rfl | (simp; done) | (simp [*]; done)), H', ⟨by have := HK1.out; have := HJ12.out; omega⟩, ⟨by (with_reducible repeat (first | apply Kd.R_alloc | apply Kd.R_drewN | apply Kd.R_drew)); exact HO_7.out⟩, ⟨by repeat (first | (with_reducible first | exact HB.out | apply below_alloc | apply pw_below_drewN | apply below_drew1) | exact HB.out)⟩⟩
                · replace c16 := Bool.eq_false_iff.mpr c16
                  subst c16
                  have H1 : ((laws_triesWork.f kj12).bind fun t199 => (some t199)) = some r := by rw [if_neg (show ¬ (false = true) by decide)] at H; exact H
                  clear H
                  have H := H1
                  clear H1
                  replace H := Option.bind_eq_some_iff.mp H
                  obtain ⟨t199, A240, H⟩ := H
                  replace H : (some t199) = some r := H
                  have A24 := Aside0.mk A240
                  clear A240
                  obtain rfl := Option.some.inj H
                  go_wp2_with (first | ((with_reducible refine gate_callee (f := 16) rfl ?_); refine goesL_ (some 44) rfl rfl Tryz.func16 (by kernel_rfl) rfl #[] rfl (by (try simp only [List.map_toArray, List.map_cons, List.map_nil]); first | done | rfl | (simp only [List.length_drop, List.length_take]; rfl)) ?_; (with_reducible refine (laws_triesWork.calls kj12  t199 _ ?sidel A24.out).mono ?_); (case sidel => exact Pi.Laid.below HLA.out (Xb HB.out)); rintro e w25 ⟨rfl, hb⟩; refine ⟨_, rfl, ?_⟩; have n0_ := Aside0.mk (Kd.R_below (XR HO_7.out) hb); have n1_ := Aside0.mk (below_step (Xb HB.out) hb); clear HO_7; clear HB; have HO_7 := n0_; have HB := n1_; clear n0_ n1_; (try clear hb); (try clear hb2); (try clear hk); (try clear hi)))
                  go_ret
                  exact ⟨by first | rfl | (simp [errW_none, errW_some] <;> rfl) | (simp [*, errW_none, errW_some] <;> rfl), by repeat (first | (with_reducible first | exact HB.out | apply below_alloc | apply pw_below_drewN | apply below_drew1) | exact HB.out)⟩
      · replace c9 := Bool.eq_false_iff.mpr c9
        subst c9
        have H1 : (some false) = some r := by rw [if_neg (show ¬ (false = true) by decide)] at H; exact H
        clear H
        have H := H1
        clear H1
        obtain rfl := Option.some.inj H
        go_enter Tryz.func3, Tryz.ntmps3
        go_wp2_with (first | ((with_reducible refine gate_callee (f := 15) rfl ?_); refine goesL_ (some 14) rfl rfl Tryz.func15 (by kernel_rfl) rfl #[.slice A0 l0.length c0] rfl (by (try simp only [List.map_toArray, List.map_cons, List.map_nil]); first | done | rfl | (simp only [List.length_drop, List.length_take]; rfl)) ?_; (with_reducible refine (spec_SpansOk.calls k _ _ l0 true _ ?side1 ?side2 A5.out).mono ?_); (case side1 => exact XC HR0.out); (case side2 => exact HC0.out); rintro e w26 ⟨rfl, hb⟩; refine ⟨_, rfl, ?_⟩; have n0_ := Aside0.mk (below_step (Xb HB.out) hb); clear HB; have HB := n0_; clear n0_; (try clear hb); (try clear hb2); (try clear hk); (try clear hi)) | ((with_reducible refine gate_callee (f := 18) rfl ?_); refine goesL_ (some 21) rfl rfl Tryz.func18 (by kernel_rfl) rfl #[.slice A0 l0.length c0, .bool a1, .bool a2] rfl (by (try simp only [List.map_toArray, List.map_cons, List.map_nil]); first | done | rfl | (simp only [List.length_drop, List.length_take]; rfl)) ?_; (with_reducible refine (spec_HolesText.calls k _ _ l0 a1 a2 t194 _ ?side1 ?side2 A7.out).mono ?_); (case side1 => exact XC (Kd.C_below HR0.out HB.out)); (case side2 => exact HC0.out); rintro e w27 ⟨rfl, hb⟩; refine ⟨_, rfl, ?_⟩; have n0_ := Aside0.mk (below_step (Xb HB.out) hb); clear HB; have HB := n0_; clear n0_; (try clear hb); (try clear hb2); (try clear hk); (try clear hi)) | ((with_reducible refine gate_callee (f := 17) rfl ?_); refine goesL_ (some 22) rfl rfl Tryz.func17 (by kernel_rfl) rfl #[.string t194] rfl (by (try simp only [List.map_toArray, List.map_cons, List.map_nil]); first | done | rfl | (simp only [List.length_drop, List.length_take]; rfl)) ?_; (with_reducible refine (impl_Holes.calls t194 t195 false _ ?sidel A8.out).mono ?_); (case sidel => exact Pi.Laid.below HLA.out (Xb HB.out)); rintro e w28 ⟨v197, rfl, ho0, hb⟩; refine ⟨_, rfl, ?_⟩; have n0_ := Aside0.mk (Kd.R_lower ho0 (below_size (Xb HB.out))); have n1_ := Aside0.mk (below_step (Xb HB.out) hb); clear HB; have HO198 := n0_; have HB := n1_; clear n0_ n1_; (try clear hb); (try clear hb2); (try clear hk); (try clear hi); (try clear ho0)))
        go_ret
        exact ⟨by first | rfl | (simp [errW_none, errW_some] <;> rfl) | (simp [*, errW_none, errW_some] <;> rfl), by repeat (first | (with_reducible first | exact HB.out | apply below_alloc | apply pw_below_drewN | apply below_drew1) | exact HB.out)⟩
    · replace c6 := Bool.eq_false_iff.mpr c6
      subst c6
      have H1 : ((laws_triesWork.f k).bind fun t193 => (some t193)) = some r := by rw [if_neg (show ¬ (false = true) by decide)] at H; exact H
      clear H
      have H := H1
      clear H1
      replace H := Option.bind_eq_some_iff.mp H
      obtain ⟨t193, A290, H⟩ := H
      replace H : (some t193) = some r := H
      have A29 := Aside0.mk A290
      clear A290
      obtain rfl := Option.some.inj H
      go_enter Tryz.func3, Tryz.ntmps3
      go_wp2_with (first | ((with_reducible refine gate_callee (f := 15) rfl ?_); refine goesL_ (some 14) rfl rfl Tryz.func15 (by kernel_rfl) rfl #[.slice A0 l0.length c0] rfl (by (try simp only [List.map_toArray, List.map_cons, List.map_nil]); first | done | rfl | (simp only [List.length_drop, List.length_take]; rfl)) ?_; (with_reducible refine (spec_SpansOk.calls k _ _ l0 false _ ?side1 ?side2 A5.out).mono ?_); (case side1 => exact XC HR0.out); (case side2 => exact HC0.out); rintro e w30 ⟨rfl, hb⟩; refine ⟨_, rfl, ?_⟩; have n0_ := Aside0.mk (below_step (Xb HB.out) hb); clear HB; have HB := n0_; clear n0_; (try clear hb); (try clear hb2); (try clear hk); (try clear hi)) | ((with_reducible refine gate_callee (f := 16) rfl ?_); refine goesL_ (some 16) rfl rfl Tryz.func16 (by kernel_rfl) rfl #[] rfl (by (try simp only [List.map_toArray, List.map_cons, List.map_nil]); first | done | rfl | (simp only [List.length_drop, List.length_take]; rfl)) ?_; (with_reducible refine (laws_triesWork.calls k  t193 _ ?sidel A29.out).mono ?_); (case sidel => exact Pi.Laid.below HLA.out (Xb HB.out)); rintro e w31 ⟨rfl, hb⟩; refine ⟨_, rfl, ?_⟩; have n0_ := Aside0.mk (below_step (Xb HB.out) hb); clear HB; have HB := n0_; clear n0_; (try clear hb); (try clear hb2); (try clear hk); (try clear hi)))
      go_ret
      exact ⟨by first | rfl | (simp [errW_none, errW_some] <;> rfl) | (simp [*, errW_none, errW_some] <;> rfl), by repeat (first | (with_reducible first | exact HB.out | apply below_alloc | apply pw_below_drewN | apply below_drew1) | exact HB.out)⟩
end Go.Proofs.YtnoolgbbpekomaaGreatDoor.T
