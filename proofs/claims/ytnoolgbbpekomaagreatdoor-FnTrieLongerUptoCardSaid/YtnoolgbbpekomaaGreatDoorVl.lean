/- As the print has them, turned for the tree: laws_FnTrieLonger. -/
import Derived.Test.YtnoolgbbpekomaaGreatDoorVz
import Derived.Test.YtnoolgbbpekomaaGreatDoorUa
import Derived.Test.YtnoolgbbpekomaaGreatDoorUb
import Derived.Test.YtnoolgbbpekomaaGreatDoorUz
import Derived.Test.YtnoolgbbpekomaaGreatDoorUc
import Derived.Test.YtnoolgbbpekomaaGreatDoorVw
namespace Go.Proofs.YtnoolgbbpekomaaGreatDoor.T
open Go.RowKit YtnoolgbbpekomaaGreatDoorW.PrintWords YtnoolgbbpekomaaGreatDoorW.PrintLast YtnoolgbbpekomaaGreatDoorW.PrintMore
attribute [local go_sem] max2_int min2_int max_two min_two max_three min_three max_four min_four   -- for this text's walks alone
set_option linter.unusedVariables false
set_option linter.unusedSimpArgs false
/-! ### laws_FnTrieLonger: function 9 -/
noncomputable def laws_FnTrieLonger.j0 : Nat → List (S42) → ByteArray → ByteArray → Bool → Option (Bool)
  | 0, _, _, _, _ => none
  | k + 1, x0, x1, x2, x20 => if x20 = true then (some true) else ((spec_MatchesOk.f k x0).bind fun t389 => (if t389 = true then (if x1.size + x2.size ≤ 9223372036854775807 then ((laws_of.f k x0 (([x1, x1 ++ x2] : List ByteArray))).bind fun t393 => (if (t393.length : Int) = 2 then (if 0 < (t393.length : Int) then (if 1 < (t393.length : Int) then ((laws_within.f k (rd_L8 t393 0) (rd_L8 t393 1)).bind fun t398 => (if t398 = true then ((laws_triesWork.f k).bind fun t399 => (some t399)) else (some false))) else (none)) else (none)) else (some false))) else (none)) else ((laws_triesWork.f k).bind fun t400 => (some t400))))
noncomputable def laws_FnTrieLonger.f (k : Nat) (l0 : List (S42)) (a1 : ByteArray) (a2 : ByteArray) : Option (Bool) := (laws_zzFits3.f k l0).bind fun t388 => (if t388 = true then (if (a1.size : Int) > 2147483647 then (laws_FnTrieLonger.j0 k l0 a1 a2 true) else (laws_FnTrieLonger.j0 k l0 a1 a2 (decide ((a2.size : Int) > 2147483647)))) else (laws_FnTrieLonger.j0 k l0 a1 a2 true))
theorem laws_FnTrieLonger.mono_l : ∀ k, (∀ y0 y1 y2 y3, LeO (laws_FnTrieLonger.j0 k y0 y1 y2 y3) (laws_FnTrieLonger.j0 (k + 1) y0 y1 y2 y3))
  | 0 => fun _ _ _ _ r h => by simp [laws_FnTrieLonger.j0] at h
  | k + 1 => by
    have ih0 := laws_FnTrieLonger.mono_l k
    · intro y0 y1 y2 y3
      unfold laws_FnTrieLonger.j0
      repeat' first
      | (with_reducible exact ih0 _ _ _ _)
      | (with_reducible exact laws_of.mono _ _ _)
      | (with_reducible exact laws_triesWork.mono _)
      | (with_reducible exact laws_within.mono _ _ _)
      | (with_reducible exact laws_zzFits3.mono _ _)
      | (with_reducible exact spec_MatchesOk.mono _ _)
      | (with_reducible exact LeO.refl _)
      | (with_reducible exact LeO.none _)
      | (with_reducible refine LeO.ite ?_ ?_)
      | (with_reducible refine LeO.bind ?_ (fun _ => ?_))
      | exact ih0 _ _ _ _
      | exact laws_of.mono _ _ _
      | exact laws_triesWork.mono _
      | exact laws_within.mono _ _ _
      | exact laws_zzFits3.mono _ _
      | exact spec_MatchesOk.mono _ _
      | exact LeO.none _
      | refine LeO.ite ?_ ?_
      | refine LeO.bind ?_ (fun _ => ?_)
theorem laws_FnTrieLonger.mono : ∀ a0 a1 a2 k, LeO (laws_FnTrieLonger.f k a0 a1 a2) (laws_FnTrieLonger.f (k + 1) a0 a1 a2) := by
  intro a0 a1 a2 k
  have ih0 := laws_FnTrieLonger.mono_l k
  unfold laws_FnTrieLonger.f
  repeat' first
      | (with_reducible exact ih0 _ _ _ _)
      | (with_reducible exact laws_of.mono _ _ _)
      | (with_reducible exact laws_triesWork.mono _)
      | (with_reducible exact laws_within.mono _ _ _)
      | (with_reducible exact laws_zzFits3.mono _ _)
      | (with_reducible exact spec_MatchesOk.mono _ _)
      | (with_reducible exact LeO.refl _)
      | (with_reducible exact LeO.none _)
      | (with_reducible refine LeO.ite ?_ ?_)
      | (with_reducible refine LeO.bind ?_ (fun _ => ?_))
      | exact ih0 _ _ _ _
      | exact laws_of.mono _ _ _
      | exact laws_triesWork.mono _
      | exact laws_within.mono _ _ _
      | exact laws_zzFits3.mono _ _
      | exact spec_MatchesOk.mono _ _
      | exact LeO.none _
      | refine LeO.ite ?_ ?_
      | refine LeO.bind ?_ (fun _ => ?_)
noncomputable def laws_FnTrieLonger.T6 : Bool × List (List Nat × List Nat) := (true, [([], []), ([0], [0]), ([1], [1]), ([2], [2]), ([3], [3]), ([4, 3], [3, 4]), ([5, 3], [3, 5]), ([3], [3]), ([7, 3], [3, 7]), ([8, 3], [3, 8]), ([6, 9, 3, 3], [3, 6, 9]), ([3, 10], [3, 10]), ([11, 10], [11]), ([12, 12], [12]), ([12, 13], [12, 13]), ([14, 13, 0, 1, 2, 3, 4, 5, 6, 7, 8, 9, 10, 11, 12, 13, 14], [14])])
noncomputable def laws_FnTrieLonger.B6 : List Nat := [0, 1, 3, 7, 15, 31, 63, 15, 143, 399, 1023, 2047, 4095, 8191, 16383, 32767]
theorem laws_FnTrieLonger.tab6 : rtab .any (opsOf Tryz.f9 6) = laws_FnTrieLonger.T6 := by kernel_rfl
theorem laws_FnTrieLonger.bits6 : waitsOk laws_FnTrieLonger.T6.2 laws_FnTrieLonger.B6 = true := by kernel_rfl
set_option maxHeartbeats 8000000 in
set_option maxRecDepth 100000 in
theorem laws_FnTrieLonger.calls (k : Nat) (A0 : Option Addr) (c0 : Nat) (l0 : List (S42)) (a1 : ByteArray) (a2 : ByteArray) (r : Bool) (w : World) (hr0 : Kd.C k42 w A0 l0.length l0) (hc0 : l0.length ≤ c0) (hl : Pi.Laid w) (h : laws_FnTrieLonger.f k l0 a1 a2 = some r) :
    Calls Tryz.prog 9 #[.slice A0 l0.length c0, .string a1, .string a2] w fun e w' => e = .returned (.bool r) ∧ Below w.heap.size w w' := by
  have HR0 := Aside0.mk hr0
  have HC0 := Aside0.mk hc0
  clear hr0 hc0
  have HLA := Aside0.mk hl
  clear hl
  have HB := Aside0.mk (Below.refl w.heap.size w)
  have H : ((laws_zzFits3.f k l0).bind fun t388 => (if t388 = true then (if (a1.size : Int) > 2147483647 then (laws_FnTrieLonger.j0 k l0 a1 a2 true) else (laws_FnTrieLonger.j0 k l0 a1 a2 (decide ((a2.size : Int) > 2147483647)))) else (laws_FnTrieLonger.j0 k l0 a1 a2 true))) = some r := h
  clear h
  have HC4 := Aside0.mk H
  clear H
  go_enter Tryz.func9, Tryz.ntmps9
  go_upto_region 1 with (fail)
  go_cut [20] (fun v20 wc => ∃ (kq : Nat) (x20_3 : Bool), v20 = .bool x20_3 ∧ Aside0 (laws_FnTrieLonger.j0 kq l0 a1 a2 x20_3 = some r) ∧ Aside0 (kq ≤ k) ∧ Aside0 (Below w.heap.size w wc))
  case first =>
    have H := HC4.out
    clear HC4
    replace H := Option.bind_eq_some_iff.mp H
    obtain ⟨t388, A50, H⟩ := H
    replace H : (if t388 = true then (if (a1.size : Int) > 2147483647 then (laws_FnTrieLonger.j0 k l0 a1 a2 true) else (laws_FnTrieLonger.j0 k l0 a1 a2 (decide ((a2.size : Int) > 2147483647)))) else (laws_FnTrieLonger.j0 k l0 a1 a2 true)) = some r := H
    have A5 := Aside0.mk A50
    clear A50
    by_cases c6 : t388 = true
    · subst c6
      have H1 : (if (a1.size : Int) > 2147483647 then (laws_FnTrieLonger.j0 k l0 a1 a2 true) else (laws_FnTrieLonger.j0 k l0 a1 a2 (decide ((a2.size : Int) > 2147483647)))) = some r := by rw [if_pos rfl] at H; exact H
      clear H
      have H := H1
      clear H1
      by_cases c7 : (a1.size : Int) > 2147483647
      · rw [if_pos c7] at H
        have c7b0 : decide (2147483647 < (a1.size : Int)) = true := decide_eq_true c7
        have c7b1 : decide (2147483647 < a1.size) = true := decide_eq_true (by omega)
        clear c7
        (first | rw [c7b0] | (simp only [i64_w, i32_w]; rw [c7b0]) | skip)
        have H' := Aside0.mk H
        clear H
        go_wp2_with (first | ((with_reducible refine gate_callee (f := 22) rfl ?_); refine goesL_ (some 9) rfl rfl Tryz.func22 (by kernel_rfl) rfl #[.slice A0 l0.length c0] rfl (by (try simp only [List.map_toArray, List.map_cons, List.map_nil]); first | done | rfl | (simp only [List.length_drop, List.length_take]; rfl)) ?_; (with_reducible refine (laws_zzFits3.calls k _ _ l0 true _ ?side1 ?side2 A5.out).mono ?_); (case side1 => exact XC (Kd.C_below HR0.out HB.out)); (case side2 => exact HC0.out); rintro e w8 ⟨rfl, hb⟩; refine ⟨_, rfl, ?_⟩; have n0_ := Aside0.mk (below_step (Xb HB.out) hb); clear HB; have HB := n0_; clear n0_; (try clear hb); (try clear hb2); (try clear hk); (try clear hi)))
        go_meet
        case rel => exact ⟨_, (true), (by first | rfl | (simp; done) | (simp [*]; done)), H', ⟨by first | omega | exact Nat.le_refl _⟩, ⟨by repeat (first | (with_reducible first | exact HB.out | apply below_alloc | apply pw_below_drewN | apply below_drew1) | exact HB.out)⟩⟩
      · rw [if_neg c7] at H
        have c7b0 : decide (2147483647 < (a1.size : Int)) = false := decide_eq_false c7
        have c7b1 : decide (2147483647 < a1.size) = false := decide_eq_false (by omega)
        clear c7
        (first | rw [c7b0] | (simp only [i64_w, i32_w]; rw [c7b0]) | skip)
        have H' := Aside0.mk H
        clear H
        go_wp2_with (first | ((with_reducible refine gate_callee (f := 22) rfl ?_); refine goesL_ (some 9) rfl rfl Tryz.func22 (by kernel_rfl) rfl #[.slice A0 l0.length c0] rfl (by (try simp only [List.map_toArray, List.map_cons, List.map_nil]); first | done | rfl | (simp only [List.length_drop, List.length_take]; rfl)) ?_; (with_reducible refine (laws_zzFits3.calls k _ _ l0 true _ ?side1 ?side2 A5.out).mono ?_); (case side1 => exact XC (Kd.C_below HR0.out HB.out)); (case side2 => exact HC0.out); rintro e w9 ⟨rfl, hb⟩; refine ⟨_, rfl, ?_⟩; have n0_ := Aside0.mk (below_step (Xb HB.out) hb); clear HB; have HB := n0_; clear n0_; (try clear hb); (try clear hb2); (try clear hk); (try clear hi)))
        go_meet
        case rel => exact ⟨_, (decide ((a2.size : Int) > 2147483647)), (by first | rfl | (simp; done) | (simp [*]; done)), H', ⟨by first | omega | exact Nat.le_refl _⟩, ⟨by repeat (first | (with_reducible first | exact HB.out | apply below_alloc | apply pw_below_drewN | apply below_drew1) | exact HB.out)⟩⟩
    · replace c6 := Bool.eq_false_iff.mpr c6
      subst c6
      have H1 : (laws_FnTrieLonger.j0 k l0 a1 a2 true) = some r := by rw [if_neg (show ¬ (false = true) by decide)] at H; exact H
      clear H
      have H := H1
      clear H1
      have H' := Aside0.mk H
      clear H
      go_wp2_with (first | ((with_reducible refine gate_callee (f := 22) rfl ?_); refine goesL_ (some 9) rfl rfl Tryz.func22 (by kernel_rfl) rfl #[.slice A0 l0.length c0] rfl (by (try simp only [List.map_toArray, List.map_cons, List.map_nil]); first | done | rfl | (simp only [List.length_drop, List.length_take]; rfl)) ?_; (with_reducible refine (laws_zzFits3.calls k _ _ l0 false _ ?side1 ?side2 A5.out).mono ?_); (case side1 => exact XC (Kd.C_below HR0.out HB.out)); (case side2 => exact HC0.out); rintro e w10 ⟨rfl, hb⟩; refine ⟨_, rfl, ?_⟩; have n0_ := Aside0.mk (below_step (Xb HB.out) hb); clear HB; have HB := n0_; clear n0_; (try clear hb); (try clear hb2); (try clear hk); (try clear hi)))
      go_meet
      case rel => exact ⟨_, (true), (by first | rfl | (simp; done) | (simp [*]; done)), H', ⟨by first | omega | exact Nat.le_refl _⟩, ⟨by repeat (first | (with_reducible first | exact HB.out | apply below_alloc | apply pw_below_drewN | apply below_drew1) | exact HB.out)⟩⟩
  case rest =>
    clear HC4
    try clear c2
    try clear p2
    try clear c6
    try clear c7
    try clear c7b0
    try clear c7b1
    try clear c9
    obtain ⟨kq, x20_3, rfl, HA, HJ3, HB⟩ := hcut
    cases kq with
    | zero => exact absurd HA.out (by simp [laws_FnTrieLonger.j0])
    | succ kj3 =>
      have H := HA.out
      clear HA
      simp only [laws_FnTrieLonger.j0] at H
      by_cases c11 : x20_3 = true
      · subst c11
        have H1 : (some true) = some r := by rw [if_pos rfl] at H; exact H
        clear H
        have H := H1
        clear H1
        obtain rfl := Option.some.inj H
        go_wp2
        go_ret
        exact ⟨by first | rfl | (simp [errW_none, errW_some] <;> rfl) | (simp [*, errW_none, errW_some] <;> rfl), by repeat (first | (with_reducible first | exact HB.out | apply below_alloc | apply pw_below_drewN | apply below_drew1) | exact HB.out)⟩
      · replace c11 := Bool.eq_false_iff.mpr c11
        subst c11
        have H1 : ((spec_MatchesOk.f kj3 l0).bind fun t389 => (if t389 = true then (if a1.size + a2.size ≤ 9223372036854775807 then ((laws_of.f kj3 l0 (([a1, a1 ++ a2] : List ByteArray))).bind fun t393 => (if (t393.length : Int) = 2 then (if 0 < (t393.length : Int) then (if 1 < (t393.length : Int) then ((laws_within.f kj3 (rd_L8 t393 0) (rd_L8 t393 1)).bind fun t398 => (if t398 = true then ((laws_triesWork.f kj3).bind fun t399 => (some t399)) else (some false))) else (none)) else (none)) else (some false))) else (none)) else ((laws_triesWork.f kj3).bind fun t400 => (some t400)))) = some r := by rw [if_neg (show ¬ (false = true) by decide)] at H; exact H
        clear H
        have H := H1
        clear H1
        replace H := Option.bind_eq_some_iff.mp H
        obtain ⟨t389, A120, H⟩ := H
        replace H : (if t389 = true then (if a1.size + a2.size ≤ 9223372036854775807 then ((laws_of.f kj3 l0 (([a1, a1 ++ a2] : List ByteArray))).bind fun t393 => (if (t393.length : Int) = 2 then (if 0 < (t393.length : Int) then (if 1 < (t393.length : Int) then ((laws_within.f kj3 (rd_L8 t393 0) (rd_L8 t393 1)).bind fun t398 => (if t398 = true then ((laws_triesWork.f kj3).bind fun t399 => (some t399)) else (some false))) else (none)) else (none)) else (some false))) else (none)) else ((laws_triesWork.f kj3).bind fun t400 => (some t400))) = some r := H
        have A12 := Aside0.mk A120
        clear A120
        by_cases c13 : t389 = true
        · subst c13
          have H1 : (if a1.size + a2.size ≤ 9223372036854775807 then ((laws_of.f kj3 l0 (([a1, a1 ++ a2] : List ByteArray))).bind fun t393 => (if (t393.length : Int) = 2 then (if 0 < (t393.length : Int) then (if 1 < (t393.length : Int) then ((laws_within.f kj3 (rd_L8 t393 0) (rd_L8 t393 1)).bind fun t398 => (if t398 = true then ((laws_triesWork.f kj3).bind fun t399 => (some t399)) else (some false))) else (none)) else (none)) else (some false))) else (none)) = some r := by rw [if_pos rfl] at H; exact H
          clear H
          have H := H1
          clear H1
          by_cases c14 : a1.size + a2.size ≤ 9223372036854775807
          · rw [if_pos c14] at H
            have c14b0 := eq_true c14
            have c14b1 : decide (a1.size + a2.size ≤ 9223372036854775807) = true := decide_eq_true c14
            try have c14b2 : (9223372036854775807 < a1.size + a2.size) = False := eq_false (Nat.not_lt.2 c14)
            obtain ⟨y390, hy390⟩ : ∃ y_ : List ByteArray, y_ = (([a1, a1 ++ a2] : List ByteArray)) := ⟨_, rfl⟩
            replace H : ((laws_of.f kj3 l0 y390).bind fun t393 => (if (t393.length : Int) = 2 then (if 0 < (t393.length : Int) then (if 1 < (t393.length : Int) then ((laws_within.f kj3 (rd_L8 t393 0) (rd_L8 t393 1)).bind fun t398 => (if t398 = true then ((laws_triesWork.f kj3).bind fun t399 => (some t399)) else (some false))) else (none)) else (none)) else (some false))) = some r := by first | (rw [hy390]; with_reducible exact H) | (have H2_ := (Option.bind_some _ _).symm.trans H; rw [hy390]; with_reducible exact H2_) | (have H2_ := (Option.bind_some _ _).symm.trans H; with_reducible exact H2_) | with_reducible exact H | (rw [hy390]; exact H) | exact H
            have Ny390 := Aside0.mk hy390
            clear hy390
            replace H := Option.bind_eq_some_iff.mp H
            obtain ⟨t393, A150, H⟩ := H
            replace H : (if (t393.length : Int) = 2 then (if 0 < (t393.length : Int) then (if 1 < (t393.length : Int) then ((laws_within.f kj3 (rd_L8 t393 0) (rd_L8 t393 1)).bind fun t398 => (if t398 = true then ((laws_triesWork.f kj3).bind fun t399 => (some t399)) else (some false))) else (none)) else (none)) else (some false)) = some r := H
            have A15 := Aside0.mk A150
            clear A150
            by_cases c16 : (t393.length : Int) = 2
            · rw [if_pos c16] at H
              have c16b0 : ((t393.length : Int) == 2) = true := beq_iff_eq.mpr c16
              have c16b1 : ((t393.length : Int) != 2) = false := bne_eq_false_iff_eq.mpr c16
              clear c16
              by_cases c17 : 0 < (t393.length : Int)
              · rw [if_pos c17] at H
                have c17b0 : decide (0 < (t393.length : Int)) = true := decide_eq_true c17
                have c17b1 : decide (0 < t393.length) = true := decide_eq_true (by omega)
                clear c17
                by_cases c18 : 1 < (t393.length : Int)
                · rw [if_pos c18] at H
                  have c18b0 : decide (1 < (t393.length : Int)) = true := decide_eq_true c18
                  have c18b1 : decide (1 < t393.length) = true := decide_eq_true (by omega)
                  clear c18
                  replace H := Option.bind_eq_some_iff.mp H
                  obtain ⟨t398, A190, H⟩ := H
                  replace H : (if t398 = true then ((laws_triesWork.f kj3).bind fun t399 => (some t399)) else (some false)) = some r := H
                  have A19 := Aside0.mk A190
                  clear A190
                  by_cases c20 : t398 = true
                  · subst c20
                    have H1 : ((laws_triesWork.f kj3).bind fun t399 => (some t399)) = some r := by rw [if_pos rfl] at H; exact H
                    clear H
                    have H := H1
                    clear H1
                    replace H := Option.bind_eq_some_iff.mp H
                    obtain ⟨t399, A210, H⟩ := H
                    replace H : (some t399) = some r := H
                    have A21 := Aside0.mk A210
                    clear A210
                    obtain rfl := Option.some.inj H
                    try go_wp2_with (first | ((with_reducible refine gate_callee (f := 24) rfl ?_); refine goesL_ (some 22) rfl rfl Tryz.func24 (by kernel_rfl) rfl #[.slice A0 l0.length c0] rfl (by (try simp only [List.map_toArray, List.map_cons, List.map_nil]); first | done | rfl | (simp only [List.length_drop, List.length_take]; rfl)) ?_; (with_reducible refine (spec_MatchesOk.calls kj3 _ _ l0 true _ ?side1 ?side2 A12.out).mono ?_); (case side1 => exact XC (Kd.C_below HR0.out HB.out)); (case side2 => exact HC0.out); rintro e w22 ⟨rfl, hb⟩; refine ⟨_, rfl, ?_⟩; have n0_ := Aside0.mk (below_step (Xb HB.out) hb); clear HB; have HB := n0_; clear n0_; (try clear hb); (try clear hb2); (try clear hk); (try clear hi)) | ((with_reducible refine gate_dst (N := 30) rfl ?_); (try (refine gate_guard (by rfl) ?_; dsimp only)); refine Kd.R_lit Kd.string _ 9 ?hg (N := 30) ?hd (xs := ([a1, a1 ++ a2] : List ByteArray)) (inner := [.string a1, .string (a1 ++ a2)]) (ok := fun _ => True) (okp := fun _ => True) ?hr ?hp (fun _ hk => hk) trivial (Below.refl _ _) (Nat.le_refl _) (by simp) ?_; (case hd => rfl); (case hg => rfl); (case hr => first | (go_simp; done) | (go_simp; rfl)); (case hp => exact (Reps.one (show Kd.M Kd.string _ _ _ a1 [.string a1] from rfl) (Reps.one (show Kd.M Kd.string _ _ _ (a1 ++ a2) [.string (a1 ++ a2)] from rfl) (Reps.none _ _)))); intro v391 w23 ho24 hb hg_ hnew_; clear hg_ hnew_; (first | rw [← Ny390.out] at ho24 | (simp only [Int.reduceToNat] at ho24; rw [← Ny390.out] at ho24)); have n0_ := Aside0.mk (Kd.R_lower ho24 (below_size (Xb HB.out))); have n1_ := Aside0.mk (below_step (Xb HB.out) hb); clear HB; have HO392 := n0_; have HB := n1_; clear n0_ n1_; clear hb ho24; obtain ⟨Ao25, co25, eo25⟩ := Kd.R_slice HO392.out; subst eo25) | ((with_reducible refine gate_callee (f := 26) rfl ?_); refine goesL_ (some 31) rfl rfl Tryz.func26 (by kernel_rfl) rfl #[.slice A0 l0.length c0, .slice Ao25 y390.length co25] rfl (by (try simp only [List.map_toArray, List.map_cons, List.map_nil]); first | done | rfl | (simp only [List.length_drop, List.length_take]; rfl)) ?_; (with_reducible refine (laws_of.calls kj3 _ _ l0 _ _ y390 t393 _ ?side1 ?side2 ?side3 ?side4 ?sidel A15.out).mono ?_); (case sidel => exact Pi.Laid.below HLA.out (Xb HB.out)); (case side1 => exact XC (Kd.C_below HR0.out HB.out)); (case side2 => exact HC0.out); (case side3 => exact XC (Kd.R_reads' HO392.out).2.2); (case side4 => exact (Kd.R_reads' HO392.out).2.1); rintro e w26 ⟨v394, rfl, ho0, hb⟩; refine ⟨_, rfl, ?_⟩; have n0_ := Aside0.mk (Kd.R_below (XR HO392.out) hb); have n1_ := Aside0.mk (Kd.S_lower ho0 (below_size (Xb HB.out))); have n2_ := Aside0.mk (below_step (Xb HB.out) hb); clear HO392; clear HB; have HO392 := n0_; have HO395 := n1_; have HB := n2_; clear n0_ n1_ n2_; (try clear hb); (try clear hb2); (try clear hk); (try clear hi); (try clear ho0)))
                    have n0_ := Aside0.mk (Kd.R_drew HO392.out)
                    have n1_ := Aside0.mk (Kd.S_drew HO395.out)
                    have n2_ := Aside0.mk (below_drew1 HB.out)
                    clear HO392
                    clear HO395
                    clear HB
                    have HO392 := n0_
                    have HO395 := n1_
                    have HB := n2_
                    clear n0_ n1_ n2_
                    obtain ⟨Ao28, co28, eo28⟩ := Kd.S_slice HO395.out
                    (first | subst eo28 | (injection eo28 with f1_ f2_ f3_; have f4_ := f1_.symm; have f5_ := f3_.symm; clear f1_ f2_ f3_; subst f4_; subst f5_))
                    have p396 : 0 ≤ (0 : Int) := (by omega)
                    have q396 : 0 < (t393.length : Int) := of_decide_eq_true (by first | (with_reducible assumption) | assumption)
                    obtain ⟨ad396, A396_0, c396_0, e396, hx396_0, hl396_0, hi396_0⟩ := at_L8 (Kd.S_reads' HO395.out).2.2 0 p396 q396
                    cases e396
                    obtain ⟨ce396, hce396, hMe396, hcc396⟩ := Kd.S_get HO395.out [] 0 p396 (by first | exact q396 | exact of_decide_eq_true (by first | (with_reducible assumption) | assumption) | (have e_ := (Kd.S_reads' HO395.out).1; omega))
                    obtain ⟨ve396_0, rfl, ge396_0⟩ := hMe396
                    have hv396_0 := hcc396 0 _ rfl
                    rw [Nat.add_zero, show ((Kd.slice 3 (Kd.int .i64))).sz = 1 from rfl, Nat.mul_one] at hv396_0
                    replace hv396_0 := Option.some.inj (hv396_0.symm.trans hx396_0)
                    rw [hv396_0] at ge396_0
                    have HL396_0 := Aside0.mk (show Kd.R (Kd.int .i64) 3 _ _ _ _ (rd_L8 t393 0) from ge396_0)
                    clear hv396_0 ge396_0
                    clear hcc396 hce396
                    have qi396 : (0 < t393.length) = True := eq_true (by omega)
                    (try rw [show ((0 : Int)).toNat = 0 from rfl] at hx396_0)
                    (try rw [Addr.add_zero'] at hx396_0)
                    have HR396_0 := Aside0.mk hi396_0
                    have HC396_0 := Aside0.mk hl396_0
                    clear hi396_0 hl396_0
                    replace p396 := eq_true p396
                    replace q396 := eq_true q396
                    have p397 : 0 ≤ (1 : Int) := (by omega)
                    have q397 : 1 < (t393.length : Int) := of_decide_eq_true (by first | (with_reducible assumption) | assumption)
                    obtain ⟨ad397, A397_0, c397_0, e397, hx397_0, hl397_0, hi397_0⟩ := at_L8 (Kd.S_reads' HO395.out).2.2 1 p397 q397
                    obtain rfl : ad396 = ad397 := (by injection e397)
                    obtain ⟨ce397, hce397, hMe397, hcc397⟩ := Kd.S_get HO395.out [] 1 p397 (by first | exact q397 | exact of_decide_eq_true (by first | (with_reducible assumption) | assumption) | (have e_ := (Kd.S_reads' HO395.out).1; omega))
                    obtain ⟨ve397_0, rfl, ge397_0⟩ := hMe397
                    have hv397_0 := hcc397 0 _ rfl
                    rw [Nat.add_zero, show ((Kd.slice 3 (Kd.int .i64))).sz = 1 from rfl, Nat.mul_one] at hv397_0
                    replace hv397_0 := Option.some.inj (hv397_0.symm.trans hx397_0)
                    rw [hv397_0] at ge397_0
                    have HL397_0 := Aside0.mk (show Kd.R (Kd.int .i64) 3 _ _ _ _ (rd_L8 t393 1) from ge397_0)
                    clear hv397_0 ge397_0
                    clear hcc397 hce397
                    (try simp only [show (1 : Int).toNat = 1 from rfl, Nat.reduceMul, Nat.reduceEqDiff, Go.Addr.add, ↓reduceIte] at hx397_0)
                    have qi397 : (1 < t393.length) = True := eq_true (by omega)
                    (try rw [show ((1 : Int)).toNat = 1 from rfl] at hx397_0)
                    have HR397_0 := Aside0.mk hi397_0
                    have HC397_0 := Aside0.mk hl397_0
                    clear hi397_0 hl397_0
                    replace p397 := eq_true p397
                    replace q397 := eq_true q397
                    refine start_ (n := 16) (S := fun w' => w'.cell? ad396 = some (.slice A396_0 (rd_L8 t393 0).length c396_0) ∧ w'.cell? ⟨ad396.block, ad396.off + 1, none⟩ = some (.slice A397_0 (rd_L8 t393 1).length c397_0)) (ds := []) #[false, false, false, false, false, false, false, false, false, false, false, false, false, false, false, false] (by kernel_rfl) rfl rfl ⟨hx396_0, hx397_0⟩ (fun hHeld => ?_); refine with_tabW laws_FnTrieLonger.tab6 laws_FnTrieLonger.bits6 (fun HT_ HW_ => ?_)
                    generalize w26.drew = w27 at HO392 HO395 HB HL396_0 HL397_0 HR396_0 HR397_0 hx396_0 hx397_0 hHeld ⊢
                    refine pure_ (i := 0) (N := some 32) (v := ?_) (a' := ?_) #[true, false, false, false, false, false, false, false, false, false, false, false, false, false, false, false] rfl rfl (any_of HT_.out (by kernel_rfl)) (fun _ _ _ h => h) (Or.inl ⟨by rfl, ?_⟩) ?_ ?_
                    rotate_left
                    · intro w'
                      go_simp
                      with_reducible rfl
                    rotate_left
                    · simp only [Act.put, List.setIfInBounds_toArray, List.set_cons_zero, List.set_cons_succ, i64_w, i32_w]
                      rfl
                    refine pure_ (i := 1) (N := some 33) (v := ?_) (a' := ?_) #[true, true, false, false, false, false, false, false, false, false, false, false, false, false, false, false] rfl rfl (any_of HT_.out (by kernel_rfl)) (fun _ _ _ h => h) (Or.inl ⟨by rfl, ?_⟩) ?_ ?_
                    rotate_left
                    · intro w'
                      go_simp
                      with_reducible rfl
                    rotate_left
                    · simp only [Act.put, List.setIfInBounds_toArray, List.set_cons_zero, List.set_cons_succ, i64_w, i32_w]
                      rfl
                    refine pure_ (i := 2) (N := some 34) (v := ?_) (a' := ?_) #[true, true, true, false, false, false, false, false, false, false, false, false, false, false, false, false] rfl rfl (any_of HT_.out (by kernel_rfl)) (fun _ _ _ h => h) (Or.inl ⟨by rfl, ?_⟩) ?_ ?_
                    rotate_left
                    · intro w'
                      go_simp
                      with_reducible rfl
                    rotate_left
                    · simp only [Act.put, List.setIfInBounds_toArray, List.set_cons_zero, List.set_cons_succ, i64_w, i32_w]
                      rfl
                    refine pure_ (i := 3) (N := some 35) (v := ?_) (a' := ?_) #[true, true, true, true, false, false, false, false, false, false, false, false, false, false, false, false] rfl rfl (any_of HT_.out (by kernel_rfl)) (fun _ _ _ h => h) (Or.inl ⟨by rfl, ?_⟩) ?_ ?_
                    rotate_left
                    · intro w'
                      go_simp
                      with_reducible rfl
                    rotate_left
                    · simp only [Act.put, List.setIfInBounds_toArray, List.set_cons_zero, List.set_cons_succ, i64_w, i32_w]
                      rfl
                    refine pure_ (i := 4) (N := some 36) (v := ?_) (a' := ?_) #[true, true, true, true, true, false, false, false, false, false, false, false, false, false, false, false] rfl rfl (any_of HT_.out (by kernel_rfl)) (fun _ _ _ h => h) (Or.inl ⟨by rfl, ?_⟩) ?_ ?_
                    rotate_left
                    · intro w'
                      go_simp
                      with_reducible rfl
                    rotate_left
                    · simp only [Act.put, List.setIfInBounds_toArray, List.set_cons_zero, List.set_cons_succ, i64_w, i32_w]
                      rfl
                    refine pure_ (i := 5) (N := some 37) (v := ?_) (a' := ?_) #[true, true, true, true, true, true, false, false, false, false, false, false, false, false, false, false] rfl rfl (any_of HT_.out (by kernel_rfl)) (fun _ _ _ h => h) (Or.inl ⟨by rfl, ?_⟩) ?_ ?_
                    rotate_left
                    · intro w'
                      go_simp
                      with_reducible rfl
                    rotate_left
                    · simp only [Act.put, List.setIfInBounds_toArray, List.set_cons_zero, List.set_cons_succ, i64_w, i32_w]
                      rfl
                    refine pure_ (i := 7) (N := some 39) (v := ?_) (a' := ?_) #[true, true, true, true, true, true, false, true, false, false, false, false, false, false, false, false] rfl rfl (any_of HT_.out (by kernel_rfl)) (fun _ _ _ h => h) (Or.inl ⟨by rfl, ?_⟩) ?_ ?_
                    rotate_left
                    · intro w'
                      go_simp
                      with_reducible rfl
                    rotate_left
                    · simp only [Act.put, List.setIfInBounds_toArray, List.set_cons_zero, List.set_cons_succ, i64_w, i32_w]
                      rfl
                    refine pure_ (i := 8) (N := some 40) (v := ?_) (a' := ?_) #[true, true, true, true, true, true, false, true, true, false, false, false, false, false, false, false] rfl rfl (any_of HT_.out (by kernel_rfl)) (fun _ _ _ h => h) (Or.inl ⟨by rfl, ?_⟩) ?_ ?_
                    rotate_left
                    · intro w'
                      go_simp
                      with_reducible rfl
                    rotate_left
                    · simp only [Act.put, List.setIfInBounds_toArray, List.set_cons_zero, List.set_cons_succ, i64_w, i32_w]
                      rfl
                    refine take_ (i := 6) (N := some 38) (v := ?_) (a' := ?_) #[true, true, true, true, true, true, true, true, true, false, false, false, false, false, false, false] rfl rfl (take_ofW HT_.out HW_.out (by kernel_rfl)) (fun _ _ _ h => h) (Or.inl ⟨by rfl, ?_⟩) hHeld ?_ ?_
                    rotate_left
                    · rintro w' ⟨s0, s1⟩
                      go_simp
                      with_reducible rfl
                    rotate_left
                    · simp only [Act.put, List.setIfInBounds_toArray, List.set_cons_zero, List.set_cons_succ, i64_w, i32_w]
                      rfl
                    refine take_ (i := 9) (N := some 41) (v := ?_) (a' := ?_) #[true, true, true, true, true, true, true, true, true, true, false, false, false, false, false, false] rfl rfl (take_ofW HT_.out HW_.out (by kernel_rfl)) (fun _ _ _ h => h) (Or.inl ⟨by rfl, ?_⟩) hHeld ?_ ?_
                    rotate_left
                    · rintro w' ⟨s0, s1⟩
                      go_simp
                      with_reducible rfl
                    rotate_left
                    · simp only [Act.put, List.setIfInBounds_toArray, List.set_cons_zero, List.set_cons_succ, i64_w, i32_w]
                      rfl
                    refine one_ (i := 10) (N := some 42) #[true, true, true, true, true, true, true, true, true, true, true, false, false, false, false, false] rfl rfl (one_of HT_.out (by kernel_rfl)) (by decide) (fun K hK => ?_)
                    refine goes_ Tryz.func28 (by kernel_rfl) rfl #[.slice A396_0 (rd_L8 t393 0).length c396_0, .slice A397_0 (rd_L8 t393 1).length c397_0] (by rfl) rfl rfl (by (try simp only [List.map_toArray, List.map_cons, List.map_nil]); first | done | rfl | (simp only [List.length_drop, List.length_take]; rfl)) ?_
                    with_reducible refine (laws_within.calls kj3 _ _ (rd_L8 t393 0) _ _ (rd_L8 t393 1) true _ ?side1 ?side2 ?side3 ?side4 A19.out).mono ?_
                    (case side1 => repeat (first | exact (by repeat (first | (with_reducible exact HR396_0.out) | (with_reducible refine Kd.C_alloc ?_ _) | (with_reducible refine Kd.C_drewN ?_ _) | (with_reducible refine Kd.C_drew ?_) | exact HR396_0.out)) | (with_reducible refine Kd.C_alloc ?_ _) | (with_reducible refine Kd.C_drewN ?_ _) | (with_reducible refine Kd.C_drew ?_)))
                    (case side2 => exact HC396_0.out)
                    (case side3 => repeat (first | exact (by repeat (first | (with_reducible exact HR397_0.out) | (with_reducible refine Kd.C_alloc ?_ _) | (with_reducible refine Kd.C_drewN ?_ _) | (with_reducible refine Kd.C_drew ?_) | exact HR397_0.out)) | (with_reducible refine Kd.C_alloc ?_ _) | (with_reducible refine Kd.C_drewN ?_ _) | (with_reducible refine Kd.C_drew ?_)))
                    (case side4 => exact HC397_0.out)
                    rintro e w' ⟨rfl, ⟨nd, rfl⟩⟩
                    refine ⟨_, rfl, ?_⟩
                    refine hK.out _ _ ⟨hHeld.1, hHeld.2⟩ (fun hHeld => ?_)
                    clear hK K
                    refine norm_ (a' := ?_) ?_ ?_
                    rotate_left
                    · show Act.put _ (some 42) _ = _
                      simp only [Act.put, List.setIfInBounds_toArray, List.set_cons_zero, List.set_cons_succ, i64_w, i32_w]
                      rfl
                    refine pure_ (i := 11) (N := some 43) (v := ?_) (a' := ?_) #[true, true, true, true, true, true, true, true, true, true, true, true, false, false, false, false] rfl rfl (any_of HT_.out (by kernel_rfl)) (fun _ _ _ h => h) (Or.inl ⟨by rfl, ?_⟩) ?_ ?_
                    rotate_left
                    · intro w'
                      go_simp
                      with_reducible rfl
                    rotate_left
                    · simp only [Act.put, List.setIfInBounds_toArray, List.set_cons_zero, List.set_cons_succ, i64_w, i32_w]
                      rfl
                    refine pure_ (i := 12) (N := some 44) (v := ?_) (a' := ?_) #[true, true, true, true, true, true, true, true, true, true, true, true, true, false, false, false] rfl rfl (any_of HT_.out (by kernel_rfl)) (fun _ _ _ h => h) (Or.inl ⟨by rfl, ?_⟩) ?_ ?_
                    rotate_left
                    · intro w'
                      go_simp
                      with_reducible rfl
                    rotate_left
                    · simp only [Act.put, List.setIfInBounds_toArray, List.set_cons_zero, List.set_cons_succ, i64_w, i32_w]
                      rfl
                    refine one_ (i := 13) (N := some 45) #[true, true, true, true, true, true, true, true, true, true, true, true, true, true, false, false] rfl rfl (one_of HT_.out (by kernel_rfl)) (by decide) (fun K hK => ?_)
                    refine goes_ Tryz.func16 (by kernel_rfl) rfl #[] (by rfl) rfl rfl (by (try simp only [List.map_toArray, List.map_cons, List.map_nil]); first | done | rfl | (simp only [List.length_drop, List.length_take]; rfl)) ?_
                    with_reducible refine (laws_triesWork.calls kj3  t399 _ ?sidel A21.out).mono ?_
                    case sidel => exact Pi.Laid.below HLA.out (Xb HB.out)
                    rintro e w29 ⟨rfl, hb⟩
                    have HS0_ := (hb.cell (World.block_lt_of_cell? _ _ (hHeld.1))).trans (hHeld.1)
                    have HS1_ := (hb.cell (World.block_lt_of_cell? _ _ (hHeld.2))).trans (hHeld.2)
                    refine ⟨_, rfl, ?_⟩
                    have n0_ := Aside0.mk (Kd.R_below (XR HO392.out) hb)
                    have n1_ := Aside0.mk (Kd.S_below (XS HO395.out) hb)
                    have n2_ := Aside0.mk (Kd.R_below (XR HL396_0.out) hb)
                    have n3_ := Aside0.mk (Kd.R_below (XR HL397_0.out) hb)
                    have n4_ := Aside0.mk (Kd.C_below (by repeat (first | (with_reducible exact HR396_0.out) | (with_reducible refine Kd.C_alloc ?_ _) | (with_reducible refine Kd.C_drewN ?_ _) | (with_reducible refine Kd.C_drew ?_) | exact HR396_0.out)) hb)
                    have n5_ := Aside0.mk (Kd.C_below (by repeat (first | (with_reducible exact HR397_0.out) | (with_reducible refine Kd.C_alloc ?_ _) | (with_reducible refine Kd.C_drewN ?_ _) | (with_reducible refine Kd.C_drew ?_) | exact HR397_0.out)) hb)
                    have n6_ := Aside0.mk (below_step (Xb HB.out) hb)
                    clear HO392
                    clear HO395
                    clear HL396_0
                    clear HL397_0
                    clear HR396_0
                    clear HR397_0
                    clear HB
                    have HO392 := n0_
                    have HO395 := n1_
                    have HL396_0 := n2_
                    have HL397_0 := n3_
                    have HR396_0 := n4_
                    have HR397_0 := n5_
                    have HB := n6_
                    clear n0_ n1_ n2_ n3_ n4_ n5_ n6_
                    (try clear hb)
                    (try clear hb2)
                    (try clear hk)
                    (try clear hi)
                    refine hK.out _ _ ⟨HS0_, HS1_⟩ (fun hHeld => ?_)
                    clear hK K
                    refine norm_ (a' := ?_) ?_ ?_
                    rotate_left
                    · show Act.put _ (some 45) _ = _
                      simp only [Act.put, List.setIfInBounds_toArray, List.set_cons_zero, List.set_cons_succ, i64_w, i32_w]
                      rfl
                    refine pure_ (i := 14) (N := some 46) (v := ?_) (a' := ?_) #[true, true, true, true, true, true, true, true, true, true, true, true, true, true, true, false] rfl rfl (any_of HT_.out (by kernel_rfl)) (fun _ _ _ h => h) (Or.inl ⟨by rfl, ?_⟩) ?_ ?_
                    rotate_left
                    · intro w'
                      go_simp
                      with_reducible rfl
                    rotate_left
                    · simp only [Act.put, List.setIfInBounds_toArray, List.set_cons_zero, List.set_cons_succ, i64_w, i32_w]
                      rfl
                    refine pure_ (i := 15) (N := some 6) (v := ?_) (a' := ?_) #[true, true, true, true, true, true, true, true, true, true, true, true, true, true, true, true] rfl rfl (any_of HT_.out (by kernel_rfl)) (fun _ _ _ h => h) (Or.inl ⟨by rfl, ?_⟩) ?_ ?_
                    rotate_left
                    · intro w'
                      go_simp
                      with_reducible rfl
                    rotate_left
                    · simp only [Act.put, List.setIfInBounds_toArray, List.set_cons_zero, List.set_cons_succ, i64_w, i32_w]
                      rfl
                    refine done_ (done_of HT_.out (by kernel_rfl)) ?_
                    try go_wp2
                    go_ret
                    exact ⟨by first | rfl | (simp [errW_none, errW_some] <;> rfl) | (simp [*, errW_none, errW_some] <;> rfl), by repeat (first | (with_reducible first | exact HB.out | apply below_alloc | apply pw_below_drewN | apply below_drew1) | exact HB.out)⟩
                  · replace c20 := Bool.eq_false_iff.mpr c20
                    subst c20
                    have H1 : (some false) = some r := by rw [if_neg (show ¬ (false = true) by decide)] at H; exact H
                    clear H
                    have H := H1
                    clear H1
                    obtain rfl := Option.some.inj H
                    try go_wp2_with (first | ((with_reducible refine gate_callee (f := 24) rfl ?_); refine goesL_ (some 22) rfl rfl Tryz.func24 (by kernel_rfl) rfl #[.slice A0 l0.length c0] rfl (by (try simp only [List.map_toArray, List.map_cons, List.map_nil]); first | done | rfl | (simp only [List.length_drop, List.length_take]; rfl)) ?_; (with_reducible refine (spec_MatchesOk.calls kj3 _ _ l0 true _ ?side1 ?side2 A12.out).mono ?_); (case side1 => exact XC (Kd.C_below HR0.out HB.out)); (case side2 => exact HC0.out); rintro e w30 ⟨rfl, hb⟩; refine ⟨_, rfl, ?_⟩; have n0_ := Aside0.mk (below_step (Xb HB.out) hb); clear HB; have HB := n0_; clear n0_; (try clear hb); (try clear hb2); (try clear hk); (try clear hi)) | ((with_reducible refine gate_dst (N := 30) rfl ?_); (try (refine gate_guard (by rfl) ?_; dsimp only)); refine Kd.R_lit Kd.string _ 9 ?hg (N := 30) ?hd (xs := ([a1, a1 ++ a2] : List ByteArray)) (inner := [.string a1, .string (a1 ++ a2)]) (ok := fun _ => True) (okp := fun _ => True) ?hr ?hp (fun _ hk => hk) trivial (Below.refl _ _) (Nat.le_refl _) (by simp) ?_; (case hd => rfl); (case hg => rfl); (case hr => first | (go_simp; done) | (go_simp; rfl)); (case hp => exact (Reps.one (show Kd.M Kd.string _ _ _ a1 [.string a1] from rfl) (Reps.one (show Kd.M Kd.string _ _ _ (a1 ++ a2) [.string (a1 ++ a2)] from rfl) (Reps.none _ _)))); intro v391 w31 ho32 hb hg_ hnew_; clear hg_ hnew_; (first | rw [← Ny390.out] at ho32 | (simp only [Int.reduceToNat] at ho32; rw [← Ny390.out] at ho32)); have n0_ := Aside0.mk (Kd.R_lower ho32 (below_size (Xb HB.out))); have n1_ := Aside0.mk (below_step (Xb HB.out) hb); clear HB; have HO392 := n0_; have HB := n1_; clear n0_ n1_; clear hb ho32; obtain ⟨Ao33, co33, eo33⟩ := Kd.R_slice HO392.out; subst eo33) | ((with_reducible refine gate_callee (f := 26) rfl ?_); refine goesL_ (some 31) rfl rfl Tryz.func26 (by kernel_rfl) rfl #[.slice A0 l0.length c0, .slice Ao33 y390.length co33] rfl (by (try simp only [List.map_toArray, List.map_cons, List.map_nil]); first | done | rfl | (simp only [List.length_drop, List.length_take]; rfl)) ?_; (with_reducible refine (laws_of.calls kj3 _ _ l0 _ _ y390 t393 _ ?side1 ?side2 ?side3 ?side4 ?sidel A15.out).mono ?_); (case sidel => exact Pi.Laid.below HLA.out (Xb HB.out)); (case side1 => exact XC (Kd.C_below HR0.out HB.out)); (case side2 => exact HC0.out); (case side3 => exact XC (Kd.R_reads' HO392.out).2.2); (case side4 => exact (Kd.R_reads' HO392.out).2.1); rintro e w34 ⟨v394, rfl, ho0, hb⟩; refine ⟨_, rfl, ?_⟩; have n0_ := Aside0.mk (Kd.R_below (XR HO392.out) hb); have n1_ := Aside0.mk (Kd.S_lower ho0 (below_size (Xb HB.out))); have n2_ := Aside0.mk (below_step (Xb HB.out) hb); clear HO392; clear HB; have HO392 := n0_; have HO395 := n1_; have HB := n2_; clear n0_ n1_ n2_; (try clear hb); (try clear hb2); (try clear hk); (try clear hi); (try clear ho0)))
                    have n0_ := Aside0.mk (Kd.R_drew HO392.out)
                    have n1_ := Aside0.mk (Kd.S_drew HO395.out)
                    have n2_ := Aside0.mk (below_drew1 HB.out)
                    clear HO392
                    clear HO395
                    clear HB
                    have HO392 := n0_
                    have HO395 := n1_
                    have HB := n2_
                    clear n0_ n1_ n2_
                    obtain ⟨Ao36, co36, eo36⟩ := Kd.S_slice HO395.out
                    (first | subst eo36 | (injection eo36 with f1_ f2_ f3_; have f4_ := f1_.symm; have f5_ := f3_.symm; clear f1_ f2_ f3_; subst f4_; subst f5_))
                    have p396 : 0 ≤ (0 : Int) := (by omega)
                    have q396 : 0 < (t393.length : Int) := of_decide_eq_true (by first | (with_reducible assumption) | assumption)
                    obtain ⟨ad396, A396_0, c396_0, e396, hx396_0, hl396_0, hi396_0⟩ := at_L8 (Kd.S_reads' HO395.out).2.2 0 p396 q396
                    cases e396
                    obtain ⟨ce396, hce396, hMe396, hcc396⟩ := Kd.S_get HO395.out [] 0 p396 (by first | exact q396 | exact of_decide_eq_true (by first | (with_reducible assumption) | assumption) | (have e_ := (Kd.S_reads' HO395.out).1; omega))
                    obtain ⟨ve396_0, rfl, ge396_0⟩ := hMe396
                    have hv396_0 := hcc396 0 _ rfl
                    rw [Nat.add_zero, show ((Kd.slice 3 (Kd.int .i64))).sz = 1 from rfl, Nat.mul_one] at hv396_0
                    replace hv396_0 := Option.some.inj (hv396_0.symm.trans hx396_0)
                    rw [hv396_0] at ge396_0
                    have HL396_0 := Aside0.mk (show Kd.R (Kd.int .i64) 3 _ _ _ _ (rd_L8 t393 0) from ge396_0)
                    clear hv396_0 ge396_0
                    clear hcc396 hce396
                    have qi396 : (0 < t393.length) = True := eq_true (by omega)
                    (try rw [show ((0 : Int)).toNat = 0 from rfl] at hx396_0)
                    (try rw [Addr.add_zero'] at hx396_0)
                    have HR396_0 := Aside0.mk hi396_0
                    have HC396_0 := Aside0.mk hl396_0
                    clear hi396_0 hl396_0
                    replace p396 := eq_true p396
                    replace q396 := eq_true q396
                    have p397 : 0 ≤ (1 : Int) := (by omega)
                    have q397 : 1 < (t393.length : Int) := of_decide_eq_true (by first | (with_reducible assumption) | assumption)
                    obtain ⟨ad397, A397_0, c397_0, e397, hx397_0, hl397_0, hi397_0⟩ := at_L8 (Kd.S_reads' HO395.out).2.2 1 p397 q397
                    obtain rfl : ad396 = ad397 := (by injection e397)
                    obtain ⟨ce397, hce397, hMe397, hcc397⟩ := Kd.S_get HO395.out [] 1 p397 (by first | exact q397 | exact of_decide_eq_true (by first | (with_reducible assumption) | assumption) | (have e_ := (Kd.S_reads' HO395.out).1; omega))
                    obtain ⟨ve397_0, rfl, ge397_0⟩ := hMe397
                    have hv397_0 := hcc397 0 _ rfl
                    rw [Nat.add_zero, show ((Kd.slice 3 (Kd.int .i64))).sz = 1 from rfl, Nat.mul_one] at hv397_0
                    replace hv397_0 := Option.some.inj (hv397_0.symm.trans hx397_0)
                    rw [hv397_0] at ge397_0
                    have HL397_0 := Aside0.mk (show Kd.R (Kd.int .i64) 3 _ _ _ _ (rd_L8 t393 1) from ge397_0)
                    clear hv397_0 ge397_0
                    clear hcc397 hce397
                    (try simp only [show (1 : Int).toNat = 1 from rfl, Nat.reduceMul, Nat.reduceEqDiff, Go.Addr.add, ↓reduceIte] at hx397_0)
                    have qi397 : (1 < t393.length) = True := eq_true (by omega)
                    (try rw [show ((1 : Int)).toNat = 1 from rfl] at hx397_0)
                    have HR397_0 := Aside0.mk hi397_0
                    have HC397_0 := Aside0.mk hl397_0
                    clear hi397_0 hl397_0
                    replace p397 := eq_true p397
                    replace q397 := eq_true q397
                    refine start_ (n := 16) (S := fun w' => w'.cell? ad396 = some (.slice A396_0 (rd_L8 t393 0).length c396_0) ∧ w'.cell? ⟨ad396.block, ad396.off + 1, none⟩ = some (.slice A397_0 (rd_L8 t393 1).length c397_0)) (ds := []) #[false, false, false, false, false, false, false, false, false, false, false, false, false, false, false, false] (by kernel_rfl) rfl rfl ⟨hx396_0, hx397_0⟩ (fun hHeld => ?_); refine with_tabW laws_FnTrieLonger.tab6 laws_FnTrieLonger.bits6 (fun HT_ HW_ => ?_)
                    generalize w34.drew = w35 at HO392 HO395 HB HL396_0 HL397_0 HR396_0 HR397_0 hx396_0 hx397_0 hHeld ⊢
                    refine pure_ (i := 0) (N := some 32) (v := ?_) (a' := ?_) #[true, false, false, false, false, false, false, false, false, false, false, false, false, false, false, false] rfl rfl (any_of HT_.out (by kernel_rfl)) (fun _ _ _ h => h) (Or.inl ⟨by rfl, ?_⟩) ?_ ?_
                    rotate_left
                    · intro w'
                      go_simp
                      with_reducible rfl
                    rotate_left
                    · simp only [Act.put, List.setIfInBounds_toArray, List.set_cons_zero, List.set_cons_succ, i64_w, i32_w]
                      rfl
                    refine pure_ (i := 1) (N := some 33) (v := ?_) (a' := ?_) #[true, true, false, false, false, false, false, false, false, false, false, false, false, false, false, false] rfl rfl (any_of HT_.out (by kernel_rfl)) (fun _ _ _ h => h) (Or.inl ⟨by rfl, ?_⟩) ?_ ?_
                    rotate_left
                    · intro w'
                      go_simp
                      with_reducible rfl
                    rotate_left
                    · simp only [Act.put, List.setIfInBounds_toArray, List.set_cons_zero, List.set_cons_succ, i64_w, i32_w]
                      rfl
                    refine pure_ (i := 2) (N := some 34) (v := ?_) (a' := ?_) #[true, true, true, false, false, false, false, false, false, false, false, false, false, false, false, false] rfl rfl (any_of HT_.out (by kernel_rfl)) (fun _ _ _ h => h) (Or.inl ⟨by rfl, ?_⟩) ?_ ?_
                    rotate_left
                    · intro w'
                      go_simp
                      with_reducible rfl
                    rotate_left
                    · simp only [Act.put, List.setIfInBounds_toArray, List.set_cons_zero, List.set_cons_succ, i64_w, i32_w]
                      rfl
                    refine pure_ (i := 3) (N := some 35) (v := ?_) (a' := ?_) #[true, true, true, true, false, false, false, false, false, false, false, false, false, false, false, false] rfl rfl (any_of HT_.out (by kernel_rfl)) (fun _ _ _ h => h) (Or.inl ⟨by rfl, ?_⟩) ?_ ?_
                    rotate_left
                    · intro w'
                      go_simp
                      with_reducible rfl
                    rotate_left
                    · simp only [Act.put, List.setIfInBounds_toArray, List.set_cons_zero, List.set_cons_succ, i64_w, i32_w]
                      rfl
                    refine pure_ (i := 4) (N := some 36) (v := ?_) (a' := ?_) #[true, true, true, true, true, false, false, false, false, false, false, false, false, false, false, false] rfl rfl (any_of HT_.out (by kernel_rfl)) (fun _ _ _ h => h) (Or.inl ⟨by rfl, ?_⟩) ?_ ?_
                    rotate_left
                    · intro w'
                      go_simp
                      with_reducible rfl
                    rotate_left
                    · simp only [Act.put, List.setIfInBounds_toArray, List.set_cons_zero, List.set_cons_succ, i64_w, i32_w]
                      rfl
                    refine pure_ (i := 5) (N := some 37) (v := ?_) (a' := ?_) #[true, true, true, true, true, true, false, false, false, false, false, false, false, false, false, false] rfl rfl (any_of HT_.out (by kernel_rfl)) (fun _ _ _ h => h) (Or.inl ⟨by rfl, ?_⟩) ?_ ?_
                    rotate_left
                    · intro w'
                      go_simp
                      with_reducible rfl
                    rotate_left
                    · simp only [Act.put, List.setIfInBounds_toArray, List.set_cons_zero, List.set_cons_succ, i64_w, i32_w]
                      rfl
                    refine pure_ (i := 7) (N := some 39) (v := ?_) (a' := ?_) #[true, true, true, true, true, true, false, true, false, false, false, false, false, false, false, false] rfl rfl (any_of HT_.out (by kernel_rfl)) (fun _ _ _ h => h) (Or.inl ⟨by rfl, ?_⟩) ?_ ?_
                    rotate_left
                    · intro w'
                      go_simp
                      with_reducible rfl
                    rotate_left
                    · simp only [Act.put, List.setIfInBounds_toArray, List.set_cons_zero, List.set_cons_succ, i64_w, i32_w]
                      rfl
                    refine pure_ (i := 8) (N := some 40) (v := ?_) (a' := ?_) #[true, true, true, true, true, true, false, true, true, false, false, false, false, false, false, false] rfl rfl (any_of HT_.out (by kernel_rfl)) (fun _ _ _ h => h) (Or.inl ⟨by rfl, ?_⟩) ?_ ?_
                    rotate_left
                    · intro w'
                      go_simp
                      with_reducible rfl
                    rotate_left
                    · simp only [Act.put, List.setIfInBounds_toArray, List.set_cons_zero, List.set_cons_succ, i64_w, i32_w]
                      rfl
                    refine take_ (i := 6) (N := some 38) (v := ?_) (a' := ?_) #[true, true, true, true, true, true, true, true, true, false, false, false, false, false, false, false] rfl rfl (take_ofW HT_.out HW_.out (by kernel_rfl)) (fun _ _ _ h => h) (Or.inl ⟨by rfl, ?_⟩) hHeld ?_ ?_
                    rotate_left
                    · rintro w' ⟨s0, s1⟩
                      go_simp
                      with_reducible rfl
                    rotate_left
                    · simp only [Act.put, List.setIfInBounds_toArray, List.set_cons_zero, List.set_cons_succ, i64_w, i32_w]
                      rfl
                    refine take_ (i := 9) (N := some 41) (v := ?_) (a' := ?_) #[true, true, true, true, true, true, true, true, true, true, false, false, false, false, false, false] rfl rfl (take_ofW HT_.out HW_.out (by kernel_rfl)) (fun _ _ _ h => h) (Or.inl ⟨by rfl, ?_⟩) hHeld ?_ ?_
                    rotate_left
                    · rintro w' ⟨s0, s1⟩
                      go_simp
                      with_reducible rfl
                    rotate_left
                    · simp only [Act.put, List.setIfInBounds_toArray, List.set_cons_zero, List.set_cons_succ, i64_w, i32_w]
                      rfl
                    refine one_ (i := 10) (N := some 42) #[true, true, true, true, true, true, true, true, true, true, true, false, false, false, false, false] rfl rfl (one_of HT_.out (by kernel_rfl)) (by decide) (fun K hK => ?_)
                    refine goes_ Tryz.func28 (by kernel_rfl) rfl #[.slice A396_0 (rd_L8 t393 0).length c396_0, .slice A397_0 (rd_L8 t393 1).length c397_0] (by rfl) rfl rfl (by (try simp only [List.map_toArray, List.map_cons, List.map_nil]); first | done | rfl | (simp only [List.length_drop, List.length_take]; rfl)) ?_
                    with_reducible refine (laws_within.calls kj3 _ _ (rd_L8 t393 0) _ _ (rd_L8 t393 1) false _ ?side1 ?side2 ?side3 ?side4 A19.out).mono ?_
                    (case side1 => repeat (first | exact (by repeat (first | (with_reducible exact HR396_0.out) | (with_reducible refine Kd.C_alloc ?_ _) | (with_reducible refine Kd.C_drewN ?_ _) | (with_reducible refine Kd.C_drew ?_) | exact HR396_0.out)) | (with_reducible refine Kd.C_alloc ?_ _) | (with_reducible refine Kd.C_drewN ?_ _) | (with_reducible refine Kd.C_drew ?_)))
                    (case side2 => exact HC396_0.out)
                    (case side3 => repeat (first | exact (by repeat (first | (with_reducible exact HR397_0.out) | (with_reducible refine Kd.C_alloc ?_ _) | (with_reducible refine Kd.C_drewN ?_ _) | (with_reducible refine Kd.C_drew ?_) | exact HR397_0.out)) | (with_reducible refine Kd.C_alloc ?_ _) | (with_reducible refine Kd.C_drewN ?_ _) | (with_reducible refine Kd.C_drew ?_)))
                    (case side4 => exact HC397_0.out)
                    rintro e w' ⟨rfl, ⟨nd, rfl⟩⟩
                    refine ⟨_, rfl, ?_⟩
                    refine hK.out _ _ ⟨hHeld.1, hHeld.2⟩ (fun hHeld => ?_)
                    clear hK K
                    refine norm_ (a' := ?_) ?_ ?_
                    rotate_left
                    · show Act.put _ (some 42) _ = _
                      simp only [Act.put, List.setIfInBounds_toArray, List.set_cons_zero, List.set_cons_succ, i64_w, i32_w]
                      rfl
                    refine pure_ (i := 11) (N := some 43) (v := ?_) (a' := ?_) #[true, true, true, true, true, true, true, true, true, true, true, true, false, false, false, false] rfl rfl (any_of HT_.out (by kernel_rfl)) (fun _ _ _ h => h) (Or.inl ⟨by rfl, ?_⟩) ?_ ?_
                    rotate_left
                    · intro w'
                      go_simp
                      with_reducible rfl
                    rotate_left
                    · simp only [Act.put, List.setIfInBounds_toArray, List.set_cons_zero, List.set_cons_succ, i64_w, i32_w]
                      rfl
                    refine pure_ (i := 12) (N := some 44) (v := ?_) (a' := ?_) #[true, true, true, true, true, true, true, true, true, true, true, true, true, false, false, false] rfl rfl (any_of HT_.out (by kernel_rfl)) (fun _ _ _ h => h) (Or.inl ⟨by rfl, ?_⟩) ?_ ?_
                    rotate_left
                    · intro w'
                      go_simp
                      with_reducible rfl
                    rotate_left
                    · simp only [Act.put, List.setIfInBounds_toArray, List.set_cons_zero, List.set_cons_succ, i64_w, i32_w]
                      rfl
                    refine pure_ (i := 13) (N := some 45) (v := undef) (a' := ?_) #[true, true, true, true, true, true, true, true, true, true, true, true, true, true, false, false] rfl rfl (any_of HT_.out (by kernel_rfl)) (fun _ _ _ h => h) (Or.inr ⟨by rfl, rfl⟩) ?_ ?_
                    rotate_left
                    · simp only [Act.put, List.setIfInBounds_toArray, List.set_cons_zero, List.set_cons_succ, i64_w, i32_w]
                      rfl
                    refine pure_ (i := 14) (N := some 46) (v := ?_) (a' := ?_) #[true, true, true, true, true, true, true, true, true, true, true, true, true, true, true, false] rfl rfl (any_of HT_.out (by kernel_rfl)) (fun _ _ _ h => h) (Or.inl ⟨by rfl, ?_⟩) ?_ ?_
                    rotate_left
                    · intro w'
                      go_simp
                      with_reducible rfl
                    rotate_left
                    · simp only [Act.put, List.setIfInBounds_toArray, List.set_cons_zero, List.set_cons_succ, i64_w, i32_w]
                      rfl
                    refine pure_ (i := 15) (N := some 6) (v := ?_) (a' := ?_) #[true, true, true, true, true, true, true, true, true, true, true, true, true, true, true, true] rfl rfl (any_of HT_.out (by kernel_rfl)) (fun _ _ _ h => h) (Or.inl ⟨by rfl, ?_⟩) ?_ ?_
                    rotate_left
                    · intro w'
                      go_simp
                      with_reducible rfl
                    rotate_left
                    · simp only [Act.put, List.setIfInBounds_toArray, List.set_cons_zero, List.set_cons_succ, i64_w, i32_w]
                      rfl
                    refine done_ (done_of HT_.out (by kernel_rfl)) ?_
                    try go_wp2
                    go_ret
                    exact ⟨by first | rfl | (simp [errW_none, errW_some] <;> rfl) | (simp [*, errW_none, errW_some] <;> rfl), by repeat (first | (with_reducible first | exact HB.out | apply below_alloc | apply pw_below_drewN | apply below_drew1) | exact HB.out)⟩
                · rw [if_neg c18] at H
                  exact absurd H (by simp)
              · rw [if_neg c17] at H
                exact absurd H (by simp)
            · rw [if_neg c16] at H
              have c16b0 : ((t393.length : Int) == 2) = false := beq_eq_false_iff_ne.mpr c16
              have c16b1 : ((t393.length : Int) != 2) = true := bne_iff_ne.mpr c16
              obtain rfl := Option.some.inj H
              try go_wp2_with (first | ((with_reducible refine gate_callee (f := 24) rfl ?_); refine goesL_ (some 22) rfl rfl Tryz.func24 (by kernel_rfl) rfl #[.slice A0 l0.length c0] rfl (by (try simp only [List.map_toArray, List.map_cons, List.map_nil]); first | done | rfl | (simp only [List.length_drop, List.length_take]; rfl)) ?_; (with_reducible refine (spec_MatchesOk.calls kj3 _ _ l0 true _ ?side1 ?side2 A12.out).mono ?_); (case side1 => exact XC (Kd.C_below HR0.out HB.out)); (case side2 => exact HC0.out); rintro e w37 ⟨rfl, hb⟩; refine ⟨_, rfl, ?_⟩; have n0_ := Aside0.mk (below_step (Xb HB.out) hb); clear HB; have HB := n0_; clear n0_; (try clear hb); (try clear hb2); (try clear hk); (try clear hi)) | ((with_reducible refine gate_dst (N := 30) rfl ?_); (try (refine gate_guard (by rfl) ?_; dsimp only)); refine Kd.R_lit Kd.string _ 9 ?hg (N := 30) ?hd (xs := ([a1, a1 ++ a2] : List ByteArray)) (inner := [.string a1, .string (a1 ++ a2)]) (ok := fun _ => True) (okp := fun _ => True) ?hr ?hp (fun _ hk => hk) trivial (Below.refl _ _) (Nat.le_refl _) (by simp) ?_; (case hd => rfl); (case hg => rfl); (case hr => first | (go_simp; done) | (go_simp; rfl)); (case hp => exact (Reps.one (show Kd.M Kd.string _ _ _ a1 [.string a1] from rfl) (Reps.one (show Kd.M Kd.string _ _ _ (a1 ++ a2) [.string (a1 ++ a2)] from rfl) (Reps.none _ _)))); intro v391 w38 ho39 hb hg_ hnew_; clear hg_ hnew_; (first | rw [← Ny390.out] at ho39 | (simp only [Int.reduceToNat] at ho39; rw [← Ny390.out] at ho39)); have n0_ := Aside0.mk (Kd.R_lower ho39 (below_size (Xb HB.out))); have n1_ := Aside0.mk (below_step (Xb HB.out) hb); clear HB; have HO392 := n0_; have HB := n1_; clear n0_ n1_; clear hb ho39; obtain ⟨Ao40, co40, eo40⟩ := Kd.R_slice HO392.out; subst eo40) | ((with_reducible refine gate_callee (f := 26) rfl ?_); refine goesL_ (some 31) rfl rfl Tryz.func26 (by kernel_rfl) rfl #[.slice A0 l0.length c0, .slice Ao40 y390.length co40] rfl (by (try simp only [List.map_toArray, List.map_cons, List.map_nil]); first | done | rfl | (simp only [List.length_drop, List.length_take]; rfl)) ?_; (with_reducible refine (laws_of.calls kj3 _ _ l0 _ _ y390 t393 _ ?side1 ?side2 ?side3 ?side4 ?sidel A15.out).mono ?_); (case sidel => exact Pi.Laid.below HLA.out (Xb HB.out)); (case side1 => exact XC (Kd.C_below HR0.out HB.out)); (case side2 => exact HC0.out); (case side3 => exact XC (Kd.R_reads' HO392.out).2.2); (case side4 => exact (Kd.R_reads' HO392.out).2.1); rintro e w41 ⟨v394, rfl, ho0, hb⟩; refine ⟨_, rfl, ?_⟩; have n0_ := Aside0.mk (Kd.R_below (XR HO392.out) hb); have n1_ := Aside0.mk (Kd.S_lower ho0 (below_size (Xb HB.out))); have n2_ := Aside0.mk (below_step (Xb HB.out) hb); clear HO392; clear HB; have HO392 := n0_; have HO395 := n1_; have HB := n2_; clear n0_ n1_ n2_; (try clear hb); (try clear hb2); (try clear hk); (try clear hi); (try clear ho0)))
              have n0_ := Aside0.mk (Kd.R_drew HO392.out)
              have n1_ := Aside0.mk (Kd.S_drew HO395.out)
              have n2_ := Aside0.mk (below_drew1 HB.out)
              clear HO392
              clear HO395
              clear HB
              have HO392 := n0_
              have HO395 := n1_
              have HB := n2_
              clear n0_ n1_ n2_
              obtain ⟨Ao43, co43, eo43⟩ := Kd.S_slice HO395.out
              (first | subst eo43 | (injection eo43 with f1_ f2_ f3_; have f4_ := f1_.symm; have f5_ := f3_.symm; clear f1_ f2_ f3_; subst f4_; subst f5_))
              refine start_ (n := 16) (S := fun w' => True) (ds := []) #[false, false, false, false, false, false, false, false, false, false, false, false, false, false, false, false] (by kernel_rfl) rfl rfl trivial (fun hHeld => ?_); refine with_tabW laws_FnTrieLonger.tab6 laws_FnTrieLonger.bits6 (fun HT_ HW_ => ?_)
              generalize w41.drew = w42 at HO392 HO395 HB hHeld ⊢
              refine pure_ (i := 0) (N := some 32) (v := ?_) (a' := ?_) #[true, false, false, false, false, false, false, false, false, false, false, false, false, false, false, false] rfl rfl (any_of HT_.out (by kernel_rfl)) (fun _ _ _ h => h) (Or.inl ⟨by rfl, ?_⟩) ?_ ?_
              rotate_left
              · intro w'
                go_simp
                with_reducible rfl
              rotate_left
              · simp only [Act.put, List.setIfInBounds_toArray, List.set_cons_zero, List.set_cons_succ, i64_w, i32_w]
                rfl
              refine pure_ (i := 1) (N := some 33) (v := ?_) (a' := ?_) #[true, true, false, false, false, false, false, false, false, false, false, false, false, false, false, false] rfl rfl (any_of HT_.out (by kernel_rfl)) (fun _ _ _ h => h) (Or.inl ⟨by rfl, ?_⟩) ?_ ?_
              rotate_left
              · intro w'
                go_simp
                with_reducible rfl
              rotate_left
              · simp only [Act.put, List.setIfInBounds_toArray, List.set_cons_zero, List.set_cons_succ, i64_w, i32_w]
                rfl
              refine pure_ (i := 2) (N := some 34) (v := ?_) (a' := ?_) #[true, true, true, false, false, false, false, false, false, false, false, false, false, false, false, false] rfl rfl (any_of HT_.out (by kernel_rfl)) (fun _ _ _ h => h) (Or.inl ⟨by rfl, ?_⟩) ?_ ?_
              rotate_left
              · intro w'
                go_simp
                with_reducible rfl
              rotate_left
              · simp only [Act.put, List.setIfInBounds_toArray, List.set_cons_zero, List.set_cons_succ, i64_w, i32_w]
                rfl
              refine pure_ (i := 3) (N := some 35) (v := ?_) (a' := ?_) #[true, true, true, true, false, false, false, false, false, false, false, false, false, false, false, false] rfl rfl (any_of HT_.out (by kernel_rfl)) (fun _ _ _ h => h) (Or.inl ⟨by rfl, ?_⟩) ?_ ?_
              rotate_left
              · intro w'
                go_simp
                with_reducible rfl
              rotate_left
              · simp only [Act.put, List.setIfInBounds_toArray, List.set_cons_zero, List.set_cons_succ, i64_w, i32_w]
                rfl
              refine pure_ (i := 4) (N := some 36) (v := undef) (a' := ?_) #[true, true, true, true, true, false, false, false, false, false, false, false, false, false, false, false] rfl rfl (any_of HT_.out (by kernel_rfl)) (fun _ _ _ h => h) (Or.inr ⟨by rfl, rfl⟩) ?_ ?_
              rotate_left
              · simp only [Act.put, List.setIfInBounds_toArray, List.set_cons_zero, List.set_cons_succ, i64_w, i32_w]
                rfl
              refine pure_ (i := 5) (N := some 37) (v := undef) (a' := ?_) #[true, true, true, true, true, true, false, false, false, false, false, false, false, false, false, false] rfl rfl (any_of HT_.out (by kernel_rfl)) (fun _ _ _ h => h) (Or.inr ⟨by rfl, rfl⟩) ?_ ?_
              rotate_left
              · simp only [Act.put, List.setIfInBounds_toArray, List.set_cons_zero, List.set_cons_succ, i64_w, i32_w]
                rfl
              refine pure_ (i := 6) (N := some 38) (v := undef) (a' := ?_) #[true, true, true, true, true, true, true, false, false, false, false, false, false, false, false, false] rfl rfl (any_of HT_.out (by kernel_rfl)) (fun _ _ _ h => h) (Or.inr ⟨by rfl, rfl⟩) ?_ ?_
              rotate_left
              · simp only [Act.put, List.setIfInBounds_toArray, List.set_cons_zero, List.set_cons_succ, i64_w, i32_w]
                rfl
              refine pure_ (i := 7) (N := some 39) (v := undef) (a' := ?_) #[true, true, true, true, true, true, true, true, false, false, false, false, false, false, false, false] rfl rfl (any_of HT_.out (by kernel_rfl)) (fun _ _ _ h => h) (Or.inr ⟨by rfl, rfl⟩) ?_ ?_
              rotate_left
              · simp only [Act.put, List.setIfInBounds_toArray, List.set_cons_zero, List.set_cons_succ, i64_w, i32_w]
                rfl
              refine pure_ (i := 8) (N := some 40) (v := undef) (a' := ?_) #[true, true, true, true, true, true, true, true, true, false, false, false, false, false, false, false] rfl rfl (any_of HT_.out (by kernel_rfl)) (fun _ _ _ h => h) (Or.inr ⟨by rfl, rfl⟩) ?_ ?_
              rotate_left
              · simp only [Act.put, List.setIfInBounds_toArray, List.set_cons_zero, List.set_cons_succ, i64_w, i32_w]
                rfl
              refine pure_ (i := 9) (N := some 41) (v := undef) (a' := ?_) #[true, true, true, true, true, true, true, true, true, true, false, false, false, false, false, false] rfl rfl (any_of HT_.out (by kernel_rfl)) (fun _ _ _ h => h) (Or.inr ⟨by rfl, rfl⟩) ?_ ?_
              rotate_left
              · simp only [Act.put, List.setIfInBounds_toArray, List.set_cons_zero, List.set_cons_succ, i64_w, i32_w]
                rfl
              refine pure_ (i := 10) (N := some 42) (v := undef) (a' := ?_) #[true, true, true, true, true, true, true, true, true, true, true, false, false, false, false, false] rfl rfl (any_of HT_.out (by kernel_rfl)) (fun _ _ _ h => h) (Or.inr ⟨by rfl, rfl⟩) ?_ ?_
              rotate_left
              · simp only [Act.put, List.setIfInBounds_toArray, List.set_cons_zero, List.set_cons_succ, i64_w, i32_w]
                rfl
              refine pure_ (i := 11) (N := some 43) (v := ?_) (a' := ?_) #[true, true, true, true, true, true, true, true, true, true, true, true, false, false, false, false] rfl rfl (any_of HT_.out (by kernel_rfl)) (fun _ _ _ h => h) (Or.inl ⟨by rfl, ?_⟩) ?_ ?_
              rotate_left
              · intro w'
                go_simp
                with_reducible rfl
              rotate_left
              · simp only [Act.put, List.setIfInBounds_toArray, List.set_cons_zero, List.set_cons_succ, i64_w, i32_w]
                rfl
              refine pure_ (i := 12) (N := some 44) (v := ?_) (a' := ?_) #[true, true, true, true, true, true, true, true, true, true, true, true, true, false, false, false] rfl rfl (any_of HT_.out (by kernel_rfl)) (fun _ _ _ h => h) (Or.inl ⟨by rfl, ?_⟩) ?_ ?_
              rotate_left
              · intro w'
                go_simp
                with_reducible rfl
              rotate_left
              · simp only [Act.put, List.setIfInBounds_toArray, List.set_cons_zero, List.set_cons_succ, i64_w, i32_w]
                rfl
              refine pure_ (i := 13) (N := some 45) (v := undef) (a' := ?_) #[true, true, true, true, true, true, true, true, true, true, true, true, true, true, false, false] rfl rfl (any_of HT_.out (by kernel_rfl)) (fun _ _ _ h => h) (Or.inr ⟨by rfl, rfl⟩) ?_ ?_
              rotate_left
              · simp only [Act.put, List.setIfInBounds_toArray, List.set_cons_zero, List.set_cons_succ, i64_w, i32_w]
                rfl
              refine pure_ (i := 14) (N := some 46) (v := ?_) (a' := ?_) #[true, true, true, true, true, true, true, true, true, true, true, true, true, true, true, false] rfl rfl (any_of HT_.out (by kernel_rfl)) (fun _ _ _ h => h) (Or.inl ⟨by rfl, ?_⟩) ?_ ?_
              rotate_left
              · intro w'
                go_simp
                with_reducible rfl
              rotate_left
              · simp only [Act.put, List.setIfInBounds_toArray, List.set_cons_zero, List.set_cons_succ, i64_w, i32_w]
                rfl
              refine pure_ (i := 15) (N := some 6) (v := ?_) (a' := ?_) #[true, true, true, true, true, true, true, true, true, true, true, true, true, true, true, true] rfl rfl (any_of HT_.out (by kernel_rfl)) (fun _ _ _ h => h) (Or.inl ⟨by rfl, ?_⟩) ?_ ?_
              rotate_left
              · intro w'
                go_simp
                with_reducible rfl
              rotate_left
              · simp only [Act.put, List.setIfInBounds_toArray, List.set_cons_zero, List.set_cons_succ, i64_w, i32_w]
                rfl
              refine done_ (done_of HT_.out (by kernel_rfl)) ?_
              try go_wp2
              go_ret
              exact ⟨by first | rfl | (simp [errW_none, errW_some] <;> rfl) | (simp [*, errW_none, errW_some] <;> rfl), by repeat (first | (with_reducible first | exact HB.out | apply below_alloc | apply pw_below_drewN | apply below_drew1) | exact HB.out)⟩
          · rw [if_neg c14] at H
            exact absurd H (by simp)
        · replace c13 := Bool.eq_false_iff.mpr c13
          subst c13
          have H1 : ((laws_triesWork.f kj3).bind fun t400 => (some t400)) = some r := by rw [if_neg (show ¬ (false = true) by decide)] at H; exact H
          clear H
          have H := H1
          clear H1
          replace H := Option.bind_eq_some_iff.mp H
          obtain ⟨t400, A440, H⟩ := H
          replace H : (some t400) = some r := H
          have A44 := Aside0.mk A440
          clear A440
          obtain rfl := Option.some.inj H
          go_wp2_with (first | ((with_reducible refine gate_callee (f := 24) rfl ?_); refine goesL_ (some 22) rfl rfl Tryz.func24 (by kernel_rfl) rfl #[.slice A0 l0.length c0] rfl (by (try simp only [List.map_toArray, List.map_cons, List.map_nil]); first | done | rfl | (simp only [List.length_drop, List.length_take]; rfl)) ?_; (with_reducible refine (spec_MatchesOk.calls kj3 _ _ l0 false _ ?side1 ?side2 A12.out).mono ?_); (case side1 => exact XC (Kd.C_below HR0.out HB.out)); (case side2 => exact HC0.out); rintro e w45 ⟨rfl, hb⟩; refine ⟨_, rfl, ?_⟩; have n0_ := Aside0.mk (below_step (Xb HB.out) hb); clear HB; have HB := n0_; clear n0_; (try clear hb); (try clear hb2); (try clear hk); (try clear hi)) | ((with_reducible refine gate_callee (f := 16) rfl ?_); refine goesL_ (some 24) rfl rfl Tryz.func16 (by kernel_rfl) rfl #[] rfl (by (try simp only [List.map_toArray, List.map_cons, List.map_nil]); first | done | rfl | (simp only [List.length_drop, List.length_take]; rfl)) ?_; (with_reducible refine (laws_triesWork.calls kj3  t400 _ ?sidel A44.out).mono ?_); (case sidel => exact Pi.Laid.below HLA.out (Xb HB.out)); rintro e w46 ⟨rfl, hb⟩; refine ⟨_, rfl, ?_⟩; have n0_ := Aside0.mk (below_step (Xb HB.out) hb); clear HB; have HB := n0_; clear n0_; (try clear hb); (try clear hb2); (try clear hk); (try clear hi)))
          go_ret
          exact ⟨by first | rfl | (simp [errW_none, errW_some] <;> rfl) | (simp [*, errW_none, errW_some] <;> rfl), by repeat (first | (with_reducible first | exact HB.out | apply below_alloc | apply pw_below_drewN | apply below_drew1) | exact HB.out)⟩
end Go.Proofs.YtnoolgbbpekomaaGreatDoor.T
