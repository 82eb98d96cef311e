/- As the print has them, turned for the tree: laws_FnHolesBad. -/
import Derived.Test.YtnoolgbbpekomaaGreatDoorVz
import Derived.Test.YtnoolgbbpekomaaGreatDoorUa
import Derived.Test.YtnoolgbbpekomaaGreatDoorUw
import Derived.Test.YtnoolgbbpekomaaGreatDoorVw
namespace Go.Proofs.YtnoolgbbpekomaaGreatDoor.T
open Go.RowKit YtnoolgbbpekomaaGreatDoorW.PrintWords YtnoolgbbpekomaaGreatDoorW.PrintLast YtnoolgbbpekomaaGreatDoorW.PrintMore
attribute [local go_sem] max2_int min2_int max_two min_two max_three min_three max_four min_four   -- for this text's walks alone
set_option linter.unusedVariables false
set_option linter.unusedSimpArgs false
/-! ### laws_FnHolesBad: function 4 -/
mutual
noncomputable def laws_FnHolesBad.j0 : Nat → List (S67) → ByteArray → Bool → Option (Bool)
  | 0, _, _, _ => none
  | k + 1, x0, x1, x15 => if x15 = true then (some true) else ((spec_SpansOk.f k x0).bind fun t202 => (if t202 = true then ((laws_wordOk.f k x1).bind fun t203 => (laws_FnHolesBad.j1 k x0 x1 (!t203))) else (laws_FnHolesBad.j1 k x0 x1 true)))
noncomputable def laws_FnHolesBad.j1 : Nat → List (S67) → ByteArray → Bool → Option (Bool)
  | 0, _, _, _ => none
  | k + 1, x0, x1, x23 => if x23 = true then ((laws_triesWork.f k).bind fun t204 => (some t204)) else ((spec_HolesText.f k x0 false false).bind fun t205 => (if t205.toList = ([] : List UInt8) then (if t205.size + x1.size ≤ 9223372036854775807 then ((impl_Holes.f (t205 ++ x1)).bind fun bt206 => (if bt206.2 = true then (some false) else ((laws_triesWork.f k).bind fun t210 => (some t210)))) else (none)) else (if t205.size + 1 ≤ 9223372036854775807 then (if (t205 ++ (⟨#[44]⟩ : ByteArray)).size + x1.size ≤ 9223372036854775807 then ((impl_Holes.f ((t205 ++ (⟨#[44]⟩ : ByteArray)) ++ x1)).bind fun bt211 => (if bt211.2 = true then (some false) else ((laws_triesWork.f k).bind fun t215 => (some t215)))) else (none)) else (none))))
end
noncomputable def laws_FnHolesBad.f (k : Nat) (l0 : List (S67)) (a1 : ByteArray) : Option (Bool) := if (l0.length : Int) > 2147483647 then (laws_FnHolesBad.j0 k l0 a1 true) else (laws_FnHolesBad.j0 k l0 a1 (decide ((a1.size : Int) > 2147483647)))
theorem laws_FnHolesBad.mono_l : ∀ k, (∀ y0 y1 y2, LeO (laws_FnHolesBad.j0 k y0 y1 y2) (laws_FnHolesBad.j0 (k + 1) y0 y1 y2)) ∧ (∀ y0 y1 y2, LeO (laws_FnHolesBad.j1 k y0 y1 y2) (laws_FnHolesBad.j1 (k + 1) y0 y1 y2))
  | 0 => ⟨fun _ _ _ r h => by simp [laws_FnHolesBad.j0] at h, fun _ _ _ r h => by simp [laws_FnHolesBad.j1] at h⟩
  | k + 1 => by
    obtain ⟨ih0, ih1⟩ := laws_FnHolesBad.mono_l k
    refine ⟨?_, ?_⟩
    · intro y0 y1 y2
      unfold laws_FnHolesBad.j0
      repeat' first
      | (with_reducible exact ih0 _ _ _)
      | (with_reducible exact ih1 _ _ _)
      | (with_reducible exact laws_triesWork.mono _)
      | (with_reducible exact laws_wordOk.mono _ _)
      | (with_reducible exact spec_HolesText.mono _ _ _ _)
      | (with_reducible exact spec_SpansOk.mono _ _)
      | (with_reducible exact LeO.refl _)
      | (with_reducible exact LeO.none _)
      | (with_reducible refine LeO.ite ?_ ?_)
      | (with_reducible refine LeO.bind ?_ (fun _ => ?_))
      | exact ih0 _ _ _
      | exact ih1 _ _ _
      | exact laws_triesWork.mono _
      | exact laws_wordOk.mono _ _
      | exact spec_HolesText.mono _ _ _ _
      | exact spec_SpansOk.mono _ _
      | exact LeO.none _
      | refine LeO.ite ?_ ?_
      | refine LeO.bind ?_ (fun _ => ?_)
    · intro y0 y1 y2
      unfold laws_FnHolesBad.j1
      repeat' first
      | (with_reducible exact ih0 _ _ _)
      | (with_reducible exact ih1 _ _ _)
      | (with_reducible exact laws_triesWork.mono _)
      | (with_reducible exact laws_wordOk.mono _ _)
      | (with_reducible exact spec_HolesText.mono _ _ _ _)
      | (with_reducible exact spec_SpansOk.mono _ _)
      | (with_reducible exact LeO.refl _)
      | (with_reducible exact LeO.none _)
      | (with_reducible refine LeO.ite ?_ ?_)
      | (with_reducible refine LeO.bind ?_ (fun _ => ?_))
      | exact ih0 _ _ _
      | exact ih1 _ _ _
      | exact laws_triesWork.mono _
      | exact laws_wordOk.mono _ _
      | exact spec_HolesText.mono _ _ _ _
      | exact spec_SpansOk.mono _ _
      | exact LeO.none _
      | refine LeO.ite ?_ ?_
      | refine LeO.bind ?_ (fun _ => ?_)
theorem laws_FnHolesBad.mono : ∀ a0 a1 k, LeO (laws_FnHolesBad.f k a0 a1) (laws_FnHolesBad.f (k + 1) a0 a1) := by
  intro a0 a1 k
  obtain ⟨ih0, ih1⟩ := laws_FnHolesBad.mono_l k
  unfold laws_FnHolesBad.f
  repeat' first
      | (with_reducible exact ih0 _ _ _)
      | (with_reducible exact ih1 _ _ _)
      | (with_reducible exact laws_triesWork.mono _)
      | (with_reducible exact laws_wordOk.mono _ _)
      | (with_reducible exact spec_HolesText.mono _ _ _ _)
      | (with_reducible exact spec_SpansOk.mono _ _)
      | (with_reducible exact LeO.refl _)
      | (with_reducible exact LeO.none _)
      | (with_reducible refine LeO.ite ?_ ?_)
      | (with_reducible refine LeO.bind ?_ (fun _ => ?_))
      | exact ih0 _ _ _
      | exact ih1 _ _ _
      | exact laws_triesWork.mono _
      | exact laws_wordOk.mono _ _
      | exact spec_HolesText.mono _ _ _ _
      | exact spec_SpansOk.mono _ _
      | exact LeO.none _
      | refine LeO.ite ?_ ?_
      | refine LeO.bind ?_ (fun _ => ?_)
set_option maxHeartbeats 8000000 in
set_option maxRecDepth 100000 in
theorem laws_FnHolesBad.calls (k : Nat) (A0 : Option Addr) (c0 : Nat) (l0 : List (S67)) (a1 : ByteArray) (r : Bool) (w : World) (hr0 : Kd.C k67 w A0 l0.length l0) (hc0 : l0.length ≤ c0) (hl : Pi.Laid w) (h : laws_FnHolesBad.f k l0 a1 = some r) :
    Calls Tryz.prog 4 #[.slice A0 l0.length c0, .string a1] w fun e w' => e = .returned (.bool r) ∧ Below w.heap.size w w' := by
  have HR0 := Aside0.mk hr0
  have HC0 := Aside0.mk hc0
  clear hr0 hc0
  have HLA := Aside0.mk hl
  clear hl
  have HB := Aside0.mk (Below.refl w.heap.size w)
  have H : (if (l0.length : Int) > 2147483647 then (laws_FnHolesBad.j0 k l0 a1 true) else (laws_FnHolesBad.j0 k l0 a1 (decide ((a1.size : Int) > 2147483647)))) = some r := h
  clear h
  have HC3 := Aside0.mk H
  clear H
  go_enter Tryz.func4, Tryz.ntmps4
  go_upto_region 1 with (fail)
  go_cut [15] (fun v15 wc => ∃ (kq : Nat) (x15_2 : Bool), v15 = .bool x15_2 ∧ Aside0 (laws_FnHolesBad.j0 kq l0 a1 x15_2 = some r) ∧ Aside0 (kq ≤ k) ∧ Aside0 (Below w.heap.size w wc))
  case first =>
    have H := HC3.out
    clear HC3
    by_cases c4 : (l0.length : Int) > 2147483647
    · rw [if_pos c4] at H
      have c4b0 : decide (2147483647 < (l0.length : Int)) = true := decide_eq_true c4
      have c4b1 : decide (2147483647 < l0.length) = true := decide_eq_true (by omega)
      clear c4
      (first | rw [c4b0] | (simp only [i64_w, i32_w]; rw [c4b0]) | skip)
      have H' := Aside0.mk H
      clear H
      go_wp2
      go_meet
      case rel => exact ⟨_, (true), (by first | rfl | (simp; done) | (simp [*]; done)), H', ⟨by first | omega | exact Nat.le_refl _⟩, ⟨by repeat (first | (with_reducible first | exact HB.out | apply below_alloc | apply pw_below_drewN | apply below_drew1) | exact HB.out)⟩⟩
    · rw [if_neg c4] at H
      have c4b0 : decide (2147483647 < (l0.length : Int)) = false := decide_eq_false c4
      have c4b1 : decide (2147483647 < l0.length) = false := decide_eq_false (by omega)
      clear c4
      (first | rw [c4b0] | (simp only [i64_w, i32_w]; rw [c4b0]) | skip)
      have H' := Aside0.mk H
      clear H
      go_wp2
      go_meet
      case rel => exact ⟨_, (decide ((a1.size : Int) > 2147483647)), (by first | rfl | (simp; done) | (simp [*]; done)), H', ⟨by first | omega | exact Nat.le_refl _⟩, ⟨by repeat (first | (with_reducible first | exact HB.out | apply below_alloc | apply pw_below_drewN | apply below_drew1) | exact HB.out)⟩⟩
  case rest =>
    clear HC3
    try clear p2
    try clear c4
    try clear c4b0
    try clear c4b1
    obtain ⟨kq, x15_2, rfl, HA, HJ2, HB⟩ := hcut
    cases kq with
    | zero => exact absurd HA.out (by simp [laws_FnHolesBad.j0])
    | succ kj2 =>
      have H := HA.out
      clear HA
      simp only [laws_FnHolesBad.j0] at H
      by_cases c5 : x15_2 = true
      · subst c5
        have H1 : (some true) = some r := by rw [if_pos rfl] at H; exact H
        clear H
        have H := H1
        clear H1
        obtain rfl := Option.some.inj H
        go_wp2
        go_ret
        exact ⟨by first | rfl | (simp [errW_none, errW_some] <;> rfl) | (simp [*, errW_none, errW_some] <;> rfl), by repeat (first | (with_reducible first | exact HB.out | apply below_alloc | apply pw_below_drewN | apply below_drew1) | exact HB.out)⟩
      · replace c5 := Bool.eq_false_iff.mpr c5
        subst c5
        have H1 : ((spec_SpansOk.f kj2 l0).bind fun t202 => (if t202 = true then ((laws_wordOk.f kj2 a1).bind fun t203 => (laws_FnHolesBad.j1 kj2 l0 a1 (!t203))) else (laws_FnHolesBad.j1 kj2 l0 a1 true))) = some r := by rw [if_neg (show ¬ (false = true) by decide)] at H; exact H
        clear H
        have H := H1
        clear H1
        have HC6 := Aside0.mk H
        clear H
        go_upto_region 3 with (fail)
        go_cut [23] (fun v23 wc => ∃ (kq : Nat) (x23_5 : Bool), v23 = .bool x23_5 ∧ Aside0 (laws_FnHolesBad.j1 kq l0 a1 x23_5 = some r) ∧ Aside0 (kq ≤ kj2) ∧ Aside0 (Below w.heap.size w wc))
        case first =>
          have H := HC6.out
          clear HC6
          replace H := Option.bind_eq_some_iff.mp H
          obtain ⟨t202, A70, H⟩ := H
          replace H : (if t202 = true then ((laws_wordOk.f kj2 a1).bind fun t203 => (laws_FnHolesBad.j1 kj2 l0 a1 (!t203))) else (laws_FnHolesBad.j1 kj2 l0 a1 true)) = some r := H
          have A7 := Aside0.mk A70
          clear A70
          by_cases c8 : t202 = true
          · subst c8
            have H1 : ((laws_wordOk.f kj2 a1).bind fun t203 => (laws_FnHolesBad.j1 kj2 l0 a1 (!t203))) = some r := by rw [if_pos rfl] at H; exact H
            clear H
            have H := H1
            clear H1
            replace H := Option.bind_eq_some_iff.mp H
            obtain ⟨t203, A90, H⟩ := H
            replace H : (laws_FnHolesBad.j1 kj2 l0 a1 (!t203)) = some r := H
            have A9 := Aside0.mk A90
            clear A90
            have H' := Aside0.mk H
            clear H
            go_wp2_with (first | ((with_reducible refine gate_callee (f := 15) rfl ?_); refine goesL_ (some 17) rfl rfl Tryz.func15 (by kernel_rfl) rfl #[.slice A0 l0.length c0] rfl (by (try simp only [List.map_toArray, List.map_cons, List.map_nil]); first | done | rfl | (simp only [List.length_drop, List.length_take]; rfl)) ?_; (with_reducible refine (spec_SpansOk.calls kj2 _ _ l0 true _ ?side1 ?side2 A7.out).mono ?_); (case side1 => exact XC (Kd.C_below HR0.out HB.out)); (case side2 => exact HC0.out); rintro e w10 ⟨rfl, hb⟩; refine ⟨_, rfl, ?_⟩; have n0_ := Aside0.mk (below_step (Xb HB.out) hb); clear HB; have HB := n0_; clear n0_; (try clear hb); (try clear hb2); (try clear hk); (try clear hi)) | (go_at_call 21; (with_reducible refine (laws_wordOk.calls kj2 a1 t203 _ A9.out).mono ?_); rintro e w' ⟨rfl, ⟨nd, rfl⟩⟩))
            go_meet
            case rel => exact ⟨_, (!t203), (by first | rfl | (simp; done) | (simp [*]; done)), H', ⟨by have := HJ2.out; first | omega | exact Nat.le_refl _⟩, ⟨by repeat (first | (with_reducible first | exact HB.out | apply below_alloc | apply pw_below_drewN | apply below_drew1) | exact HB.out)⟩⟩
          · replace c8 := Bool.eq_false_iff.mpr c8
            subst c8
            have H1 : (laws_FnHolesBad.j1 kj2 l0 a1 true) = some r := by rw [if_neg (show ¬ (false = true) by decide)] at H; exact H
            clear H
            have H := H1
            clear H1
            have H' := Aside0.mk H
            clear H
            go_wp2_with (first | ((with_reducible refine gate_callee (f := 15) rfl ?_); refine goesL_ (some 17) rfl rfl Tryz.func15 (by kernel_rfl) rfl #[.slice A0 l0.length c0] rfl (by (try simp only [List.map_toArray, List.map_cons, List.map_nil]); first | done | rfl | (simp only [List.length_drop, List.length_take]; rfl)) ?_; (with_reducible refine (spec_SpansOk.calls kj2 _ _ l0 false _ ?side1 ?side2 A7.out).mono ?_); (case side1 => exact XC (Kd.C_below HR0.out HB.out)); (case side2 => exact HC0.out); rintro e w11 ⟨rfl, hb⟩; refine ⟨_, rfl, ?_⟩; have n0_ := Aside0.mk (below_step (Xb HB.out) hb); clear HB; have HB := n0_; clear n0_; (try clear hb); (try clear hb2); (try clear hk); (try clear hi)))
            go_meet
            case rel => exact ⟨_, (true), (by first | rfl | (simp; done) | (simp [*]; done)), H', ⟨by have := HJ2.out; first | omega | exact Nat.le_refl _⟩, ⟨by repeat (first | (with_reducible first | exact HB.out | apply below_alloc | apply pw_below_drewN | apply below_drew1) | exact HB.out)⟩⟩
        case rest =>
          clear HC6
          try clear c1
          try clear p2
          try clear c4
          try clear c4b0
          try clear c4b1
          try clear c5
          try clear c8
          try clear p2
          obtain ⟨kq, x23_5, rfl, HA, HJ5, HB⟩ := hcut
          cases kq with
          | zero => exact absurd HA.out (by simp [laws_FnHolesBad.j1])
          | succ kj5 =>
            have H := HA.out
            clear HA
            simp only [laws_FnHolesBad.j1] at H
            by_cases c12 : x23_5 = true
            · subst c12
              have H1 : ((laws_triesWork.f kj5).bind fun t204 => (some t204)) = some r := by rw [if_pos rfl] at H; exact H
              clear H
              have H := H1
              clear H1
              replace H := Option.bind_eq_some_iff.mp H
              obtain ⟨t204, A130, H⟩ := H
              replace H : (some t204) = some r := H
              have A13 := Aside0.mk A130
              clear A130
              obtain rfl := Option.some.inj H
              go_wp2_with (first | ((with_reducible refine gate_callee (f := 16) rfl ?_); refine goesL_ (some 24) rfl rfl Tryz.func16 (by kernel_rfl) rfl #[] rfl (by (try simp only [List.map_toArray, List.map_cons, List.map_nil]); first | done | rfl | (simp only [List.length_drop, List.length_take]; rfl)) ?_; (with_reducible refine (laws_triesWork.calls kj5  t204 _ ?sidel A13.out).mono ?_); (case sidel => exact Pi.Laid.below HLA.out (Xb HB.out)); rintro e w14 ⟨rfl, hb⟩; refine ⟨_, rfl, ?_⟩; have n0_ := Aside0.mk (below_step (Xb HB.out) hb); clear HB; have HB := n0_; clear n0_; (try clear hb); (try clear hb2); (try clear hk); (try clear hi)))
              go_ret
              exact ⟨by first | rfl | (simp [errW_none, errW_some] <;> rfl) | (simp [*, errW_none, errW_some] <;> rfl), by repeat (first | (with_reducible first | exact HB.out | apply below_alloc | apply pw_below_drewN | apply below_drew1) | exact HB.out)⟩
            · replace c12 := Bool.eq_false_iff.mpr c12
              subst c12
              have H1 : ((spec_HolesText.f kj5 l0 false false).bind fun t205 => (if t205.toList = ([] : List UInt8) then (if t205.size + a1.size ≤ 9223372036854775807 then ((impl_Holes.f (t205 ++ a1)).bind fun bt206 => (if bt206.2 = true then (some false) else ((laws_triesWork.f kj5).bind fun t210 => (some t210)))) else (none)) else (if t205.size + 1 ≤ 9223372036854775807 then (if (t205 ++ (⟨#[44]⟩ : ByteArray)).size + a1.size ≤ 9223372036854775807 then ((impl_Holes.f ((t205 ++ (⟨#[44]⟩ : ByteArray)) ++ a1)).bind fun bt211 => (if bt211.2 = true then (some false) else ((laws_triesWork.f kj5).bind fun t215 => (some t215)))) else (none)) else (none)))) = some r := by rw [if_neg (show ¬ (false = true) by decide)] at H; exact H
              clear H
              have H := H1
              clear H1
              replace H := Option.bind_eq_some_iff.mp H
              obtain ⟨t205, A150, H⟩ := H
              replace H : (if t205.toList = ([] : List UInt8) then (if t205.size + a1.size ≤ 9223372036854775807 then ((impl_Holes.f (t205 ++ a1)).bind fun bt206 => (if bt206.2 = true then (some false) else ((laws_triesWork.f kj5).bind fun t210 => (some t210)))) else (none)) else (if t205.size + 1 ≤ 9223372036854775807 then (if (t205 ++ (⟨#[44]⟩ : ByteArray)).size + a1.size ≤ 9223372036854775807 then ((impl_Holes.f ((t205 ++ (⟨#[44]⟩ : ByteArray)) ++ a1)).bind fun bt211 => (if bt211.2 = true then (some false) else ((laws_triesWork.f kj5).bind fun t215 => (some t215)))) else (none)) else (none))) = some r := H
              have A15 := Aside0.mk A150
              clear A150
              by_cases c16 : t205.toList = ([] : List UInt8)
              · rw [if_pos c16] at H
                have c16b0 : (t205.toList == ([] : List UInt8)) = true := beq_iff_eq.mpr c16
                have c16b1 : (t205.toList != ([] : List UInt8)) = false := bne_eq_false_iff_eq.mpr c16
                clear c16
                by_cases c17 : t205.size + a1.size ≤ 9223372036854775807
                · rw [if_pos c17] at H
                  have c17b0 := eq_true c17
                  have c17b1 : decide (t205.size + a1.size ≤ 9223372036854775807) = true := decide_eq_true c17
                  try have c17b2 : (9223372036854775807 < t205.size + a1.size) = False := eq_false (Nat.not_lt.2 c17)
                  replace H := Option.bind_eq_some_iff.mp H
                  obtain ⟨⟨t206, t207⟩, A180, H⟩ := H
                  replace H : (if t207 = true then (some false) else ((laws_triesWork.f kj5).bind fun t210 => (some t210))) = some r := H
                  have A18 := Aside0.mk A180
                  clear A180
                  by_cases c19 : t207 = true
                  · subst c19
                    have H1 : (some false) = some r := by rw [if_pos rfl] at H; exact H
                    clear H
                    have H := H1
                    clear H1
                    obtain rfl := Option.some.inj H
                    go_wp2_with (first | ((with_reducible refine gate_callee (f := 18) rfl ?_); refine goesL_ (some 26) rfl rfl Tryz.func18 (by kernel_rfl) rfl #[.slice A0 l0.length c0, .bool false, .bool false] rfl (by (try simp only [List.map_toArray, List.map_cons, List.map_nil]); first | done | rfl | (simp only [List.length_drop, List.length_take]; rfl)) ?_; (with_reducible refine (spec_HolesText.calls kj5 _ _ l0 false false t205 _ ?side1 ?side2 A15.out).mono ?_); (case side1 => exact XC (Kd.C_below HR0.out HB.out)); (case side2 => exact HC0.out); rintro e w20 ⟨rfl, hb⟩; refine ⟨_, rfl, ?_⟩; have n0_ := Aside0.mk (below_step (Xb HB.out) hb); clear HB; have HB := n0_; clear n0_; (try clear hb); (try clear hb2); (try clear hk); (try clear hi)) | ((with_reducible refine gate_callee (f := 17) rfl ?_); refine goesL_ (some 35) rfl rfl Tryz.func17 (by kernel_rfl) rfl #[.string (t205 ++ a1)] rfl (by (try simp only [List.map_toArray, List.map_cons, List.map_nil]); first | done | rfl | (simp only [List.length_drop, List.length_take]; rfl)) ?_; (with_reducible refine (impl_Holes.calls (t205 ++ a1) t206 true _ ?sidel A18.out).mono ?_); (case sidel => exact Pi.Laid.below HLA.out (Xb HB.out)); rintro e w21 ⟨v208, rfl, ho0, hb⟩; refine ⟨_, rfl, ?_⟩; have n0_ := Aside0.mk (Kd.R_lower ho0 (below_size (Xb HB.out))); have n1_ := Aside0.mk (below_step (Xb HB.out) hb); clear HB; have HO209 := n0_; have HB := n1_; clear n0_ n1_; (try clear hb); (try clear hb2); (try clear hk); (try clear hi); (try clear ho0)))
                    go_ret
                    exact ⟨by first | rfl | (simp [errW_none, errW_some] <;> rfl) | (simp [*, errW_none, errW_some] <;> rfl), by repeat (first | (with_reducible first | exact HB.out | apply below_alloc | apply pw_below_drewN | apply below_drew1) | exact HB.out)⟩
                  · replace c19 := Bool.eq_false_iff.mpr c19
                    subst c19
                    have H1 : ((laws_triesWork.f kj5).bind fun t210 => (some t210)) = some r := by rw [if_neg (show ¬ (false = true) by decide)] at H; exact H
                    clear H
                    have H := H1
                    clear H1
                    replace H := Option.bind_eq_some_iff.mp H
                    obtain ⟨t210, A220, H⟩ := H
                    replace H : (some t210) = some r := H
                    have A22 := Aside0.mk A220
                    clear A220
                    obtain rfl := Option.some.inj H
                    go_wp2_with (first | ((with_reducible refine gate_callee (f := 18) rfl ?_); refine goesL_ (some 26) rfl rfl Tryz.func18 (by kernel_rfl) rfl #[.slice A0 l0.length c0, .bool false, .bool false] rfl (by (try simp only [List.map_toArray, List.map_cons, List.map_nil]); first | done | rfl | (simp only [List.length_drop, List.length_take]; rfl)) ?_; (with_reducible refine (spec_HolesText.calls kj5 _ _ l0 false false t205 _ ?side1 ?side2 A15.out).mono ?_); (case side1 => exact XC (Kd.C_below HR0.out HB.out)); (case side2 => exact HC0.out); rintro e w23 ⟨rfl, hb⟩; refine ⟨_, rfl, ?_⟩; have n0_ := Aside0.mk (below_step (Xb HB.out) hb); clear HB; have HB := n0_; clear n0_; (try clear hb); (try clear hb2); (try clear hk); (try clear hi)) | ((with_reducible refine gate_callee (f := 17) rfl ?_); refine goesL_ (some 35) rfl rfl Tryz.func17 (by kernel_rfl) rfl #[.string (t205 ++ a1)] rfl (by (try simp only [List.map_toArray, List.map_cons, List.map_nil]); first | done | rfl | (simp only [List.length_drop, List.length_take]; rfl)) ?_; (with_reducible refine (impl_Holes.calls (t205 ++ a1) t206 false _ ?sidel A18.out).mono ?_); (case sidel => exact Pi.Laid.below HLA.out (Xb HB.out)); rintro e w24 ⟨v208, rfl, ho0, hb⟩; refine ⟨_, rfl, ?_⟩; have n0_ := Aside0.mk (Kd.R_lower ho0 (below_size (Xb HB.out))); have n1_ := Aside0.mk (below_step (Xb HB.out) hb); clear HB; have HO209 := n0_; have HB := n1_; clear n0_ n1_; (try clear hb); (try clear hb2); (try clear hk); (try clear hi); (try clear ho0)) | (go_at_call 16; (with_reducible refine (laws_triesWork.calls kj5  t210 _ ?sidel A22.out).mono ?_); (case sidel => exact Pi.Laid.below HLA.out (Xb HB.out)); rintro e w25 ⟨rfl, hb⟩; have n0_ := Aside0.mk (Kd.R_below (XR HO209.out) hb); have n1_ := Aside0.mk (below_step (Xb HB.out) hb); clear HO209; clear HB; have HO209 := n0_; have HB := n1_; clear n0_ n1_; (try clear hb); (try clear hb2); (try clear hk); (try clear hi)))
                    go_ret
                    exact ⟨by first | rfl | (simp [errW_none, errW_some] <;> rfl) | (simp [*, errW_none, errW_some] <;> rfl), by repeat (first | (with_reducible first | exact HB.out | apply below_alloc | apply pw_below_drewN | apply below_drew1) | exact HB.out)⟩
                · rw [if_neg c17] at H
                  exact absurd H (by simp)
              · rw [if_neg c16] at H
                have c16b0 : (t205.toList == ([] : List UInt8)) = false := beq_eq_false_iff_ne.mpr c16
                have c16b1 : (t205.toList != ([] : List UInt8)) = true := bne_iff_ne.mpr c16
                by_cases c26 : t205.size + 1 ≤ 9223372036854775807
                · rw [if_pos c26] at H
                  have c26b0 := eq_true c26
                  have c26b1 : decide (t205.size + 1 ≤ 9223372036854775807) = true := decide_eq_true c26
                  try have c26b2 : (9223372036854775807 < t205.size + 1) = False := eq_false (Nat.not_lt.2 c26)
                  by_cases c27 : (t205 ++ (⟨#[44]⟩ : ByteArray)).size + a1.size ≤ 9223372036854775807
                  · rw [if_pos c27] at H
                    have c27b0 := eq_true c27
                    have c27b1 : decide ((t205 ++ (⟨#[44]⟩ : ByteArray)).size + a1.size ≤ 9223372036854775807) = true := decide_eq_true c27
                    try have c27b2 : (9223372036854775807 < (t205 ++ (⟨#[44]⟩ : ByteArray)).size + a1.size) = False := eq_false (Nat.not_lt.2 c27)
                    have HX_ : (t205 ++ (⟨#[44]⟩ : ByteArray)).size = t205.size + 1 := by rw [ByteArray.size_append]; rfl
                    have c27b3 : t205.size + 1 + a1.size ≤ 9223372036854775807 := by rw [← HX_]; exact c27
                    replace c27b3 := eq_true c27b3
                    replace H := Option.bind_eq_some_iff.mp H
                    obtain ⟨⟨t211, t212⟩, A280, H⟩ := H
                    replace H : (if t212 = true then (some false) else ((laws_triesWork.f kj5).bind fun t215 => (some t215))) = some r := H
                    have A28 := Aside0.mk A280
                    clear A280
                    by_cases c29 : t212 = true
                    · subst c29
                      have H1 : (some false) = some r := by rw [if_pos rfl] at H; exact H
                      clear H
                      have H := H1
                      clear H1
                      obtain rfl := Option.some.inj H
                      go_wp2_with (first | ((with_reducible refine gate_callee (f := 18) rfl ?_); refine goesL_ (some 26) rfl rfl Tryz.func18 (by kernel_rfl) rfl #[.slice A0 l0.length c0, .bool false, .bool false] rfl (by (try simp only [List.map_toArray, List.map_cons, List.map_nil]); first | done | rfl | (simp only [List.length_drop, List.length_take]; rfl)) ?_; (with_reducible refine (spec_HolesText.calls kj5 _ _ l0 false false t205 _ ?side1 ?side2 A15.out).mono ?_); (case side1 => exact XC (Kd.C_below HR0.out HB.out)); (case side2 => exact HC0.out); rintro e w30 ⟨rfl, hb⟩; refine ⟨_, rfl, ?_⟩; have n0_ := Aside0.mk (below_step (Xb HB.out) hb); clear HB; have HB := n0_; clear n0_; (try clear hb); (try clear hb2); (try clear hk); (try clear hi)) | ((with_reducible refine gate_callee (f := 17) rfl ?_); refine goesL_ (some 35) rfl rfl Tryz.func17 (by kernel_rfl) rfl #[.string ((t205 ++ (⟨#[44]⟩ : ByteArray)) ++ a1)] rfl (by (try simp only [List.map_toArray, List.map_cons, List.map_nil]); first | done | rfl | (simp only [List.length_drop, List.length_take]; rfl)) ?_; (with_reducible refine (impl_Holes.calls ((t205 ++ (⟨#[44]⟩ : ByteArray)) ++ a1) t211 true _ ?sidel A28.out).mono ?_); (case sidel => exact Pi.Laid.below HLA.out (Xb HB.out)); rintro e w31 ⟨v213, rfl, ho0, hb⟩; refine ⟨_, rfl, ?_⟩; have n0_ := Aside0.mk (Kd.R_lower ho0 (below_size (Xb HB.out))); have n1_ := Aside0.mk (below_step (Xb HB.out) hb); clear HB; have HO214 := n0_; have HB := n1_; clear n0_ n1_; (try clear hb); (try clear hb2); (try clear hk); (try clear hi); (try clear ho0)))
                      go_ret
                      exact ⟨by first | rfl | (simp [errW_none, errW_some] <;> rfl) | (simp [*, errW_none, errW_some] <;> rfl), by repeat (first | (with_reducible first | exact HB.out | apply below_alloc | apply pw_below_drewN | apply below_drew1) | exact HB.out)⟩
                    · replace c29 := Bool.eq_false_iff.mpr c29
                      subst c29
                      have H1 : ((laws_triesWork.f kj5).bind fun t215 => (some t215)) = some r := by rw [if_neg (show ¬ (false = true) by decide)] at H; exact H
                      clear H
                      have H := H1
                      clear H1
                      replace H := Option.bind_eq_some_iff.mp H
                      obtain ⟨t215, A320, H⟩ := H
                      replace H : (some t215) = some r := H
                      have A32 := Aside0.mk A320
                      clear A320
                      obtain rfl := Option.some.inj H
                      go_wp2_with (first | ((with_reducible refine gate_callee (f := 18) rfl ?_); refine goesL_ (some 26) rfl rfl Tryz.func18 (by kernel_rfl) rfl #[.slice A0 l0.length c0, .bool false, .bool false] rfl (by (try simp only [List.map_toArray, List.map_cons, List.map_nil]); first | done | rfl | (simp only [List.length_drop, List.length_take]; rfl)) ?_; (with_reducible refine (spec_HolesText.calls kj5 _ _ l0 false false t205 _ ?side1 ?side2 A15.out).mono ?_); (case side1 => exact XC (Kd.C_below HR0.out HB.out)); (case side2 => exact HC0.out); rintro e w33 ⟨rfl, hb⟩; refine ⟨_, rfl, ?_⟩; have n0_ := Aside0.mk (below_step (Xb HB.out) hb); clear HB; have HB := n0_; clear n0_; (try clear hb); (try clear hb2); (try clear hk); (try clear hi)) | ((with_reducible refine gate_callee (f := 17) rfl ?_); refine goesL_ (some 35) rfl rfl Tryz.func17 (by kernel_rfl) rfl #[.string ((t205 ++ (⟨#[44]⟩ : ByteArray)) ++ a1)] rfl (by (try simp only [List.map_toArray, List.map_cons, List.map_nil]); first | done | rfl | (simp only [List.length_drop, List.length_take]; rfl)) ?_; (with_reducible refine (impl_Holes.calls ((t205 ++ (⟨#[44]⟩ : ByteArray)) ++ a1) t211 false _ ?sidel A28.out).mono ?_); (case sidel => exact Pi.Laid.below HLA.out (Xb HB.out)); rintro e w34 ⟨v213, rfl, ho0, hb⟩; refine ⟨_, rfl, ?_⟩; have n0_ := Aside0.mk (Kd.R_lower ho0 (below_size (Xb HB.out))); have n1_ := Aside0.mk (below_step (Xb HB.out) hb); clear HB; have HO214 := n0_; have HB := n1_; clear n0_ n1_; (try clear hb); (try clear hb2); (try clear hk); (try clear hi); (try clear ho0)) | (go_at_call 16; (with_reducible refine (laws_triesWork.calls kj5  t215 _ ?sidel A32.out).mono ?_); (case sidel => exact Pi.Laid.below HLA.out (Xb HB.out)); rintro e w35 ⟨rfl, hb⟩; have n0_ := Aside0.mk (Kd.R_below (XR HO214.out) hb); have n1_ := Aside0.mk (below_step (Xb HB.out) hb); clear HO214; clear HB; have HO214 := n0_; have HB := n1_; clear n0_ n1_; (try clear hb); (try clear hb2); (try clear hk); (try clear hi)))
                      go_ret
                      exact ⟨by first | rfl | (simp [errW_none, errW_some] <;> rfl) | (simp [*, errW_none, errW_some] <;> rfl), by repeat (first | (with_reducible first | exact HB.out | apply below_alloc | apply pw_below_drewN | apply below_drew1) | exact HB.out)⟩
                  · rw [if_neg c27] at H
                    exact absurd H (by simp)
                · rw [if_neg c26] at H
                  exact absurd H (by simp)
end Go.Proofs.YtnoolgbbpekomaaGreatDoor.T
