/- As the print has them, turned for the tree: laws_FnTriePlain. -/
import Derived.Test.YtnoolgbbpekomaaGreatDoorVz
import Derived.Test.YtnoolgbbpekomaaGreatDoorUa
import Derived.Test.YtnoolgbbpekomaaGreatDoorUb
import Derived.Test.YtnoolgbbpekomaaGreatDoorUz
import Derived.Test.YtnoolgbbpekomaaGreatDoorUg
import Derived.Test.YtnoolgbbpekomaaGreatDoorUk
import Derived.Test.YtnoolgbbpekomaaGreatDoorVw
namespace Go.Proofs.YtnoolgbbpekomaaGreatDoor.T
open Go.RowKit YtnoolgbbpekomaaGreatDoorW.PrintWords YtnoolgbbpekomaaGreatDoorW.PrintLast YtnoolgbbpekomaaGreatDoorW.PrintMore
attribute [local go_sem] max2_int min2_int max_two min_two max_three min_three max_four min_four   -- for this text's walks alone
set_option linter.unusedVariables false
set_option linter.unusedSimpArgs false
/-! ### laws_FnTriePlain: function 11 -/
noncomputable def laws_FnTriePlain.j0 : Nat → List (S42) → List ByteArray → Bool → Option (Bool)
  | 0, _, _, _ => none
  | k + 1, x0, x1, x18 => if x18 = true then (some true) else ((spec_MatchesOk.f k x0).bind fun t453 => (if t453 = true then ((laws_plainly.f k x0).bind fun t455 => ((spec_Turns.f k t455 false false true).bind fun t458 => ((impl_RunTrie.f t458 x1).bind fun bt461 => ((spec_Turns.f k t455 false false false).bind fun t468 => ((impl_RunTrie.f t468 x1).bind fun bt471 => (if (bt461.2.1.length : Int) = (x1.length : Int) then ((laws_sameRows.f k bt461.2.1 bt471.2.1).bind fun t478 => (if t478 = true then (if bt461.2.2 = bt471.2.2 then ((laws_triesWork.f k).bind fun t479 => (some t479)) else (some false)) else (some false))) else (some false))))))) else ((laws_triesWork.f k).bind fun t454 => (some t454))))
noncomputable def laws_FnTriePlain.f (k : Nat) (l0 : List (S42)) (l1 : List ByteArray) : Option (Bool) := (laws_zzFits3.f k l0).bind fun t451 => (if t451 = true then ((laws_zzFits5.f k l1).bind fun t452 => (laws_FnTriePlain.j0 k l0 l1 (!t452))) else (laws_FnTriePlain.j0 k l0 l1 true))
theorem laws_FnTriePlain.mono_l : ∀ k, (∀ y0 y1 y2, LeO (laws_FnTriePlain.j0 k y0 y1 y2) (laws_FnTriePlain.j0 (k + 1) y0 y1 y2))
  | 0 => fun _ _ _ r h => by simp [laws_FnTriePlain.j0] at h
  | k + 1 => by
    have ih0 := laws_FnTriePlain.mono_l k
    · intro y0 y1 y2
      unfold laws_FnTriePlain.j0
      repeat' first
      | (with_reducible exact ih0 _ _ _)
      | (with_reducible exact laws_plainly.mono _ _)
      | (with_reducible exact laws_sameRows.mono _ _ _)
      | (with_reducible exact laws_triesWork.mono _)
      | (with_reducible exact laws_zzFits3.mono _ _)
      | (with_reducible exact laws_zzFits5.mono _ _)
      | (with_reducible exact spec_MatchesOk.mono _ _)
      | (with_reducible exact spec_Turns.mono _ _ _ _ _)
      | (with_reducible exact LeO.refl _)
      | (with_reducible exact LeO.none _)
      | (with_reducible refine LeO.ite ?_ ?_)
      | (with_reducible refine LeO.bind ?_ (fun _ => ?_))
      | exact ih0 _ _ _
      | exact laws_plainly.mono _ _
      | exact laws_sameRows.mono _ _ _
      | exact laws_triesWork.mono _
      | exact laws_zzFits3.mono _ _
      | exact laws_zzFits5.mono _ _
      | exact spec_MatchesOk.mono _ _
      | exact spec_Turns.mono _ _ _ _ _
      | exact LeO.none _
      | refine LeO.ite ?_ ?_
      | refine LeO.bind ?_ (fun _ => ?_)
theorem laws_FnTriePlain.mono : ∀ a0 a1 k, LeO (laws_FnTriePlain.f k a0 a1) (laws_FnTriePlain.f (k + 1) a0 a1) := by
  intro a0 a1 k
  have ih0 := laws_FnTriePlain.mono_l k
  unfold laws_FnTriePlain.f
  repeat' first
      | (with_reducible exact ih0 _ _ _)
      | (with_reducible exact laws_plainly.mono _ _)
      | (with_reducible exact laws_sameRows.mono _ _ _)
      | (with_reducible exact laws_triesWork.mono _)
      | (with_reducible exact laws_zzFits3.mono _ _)
      | (with_reducible exact laws_zzFits5.mono _ _)
      | (with_reducible exact spec_MatchesOk.mono _ _)
      | (with_reducible exact spec_Turns.mono _ _ _ _ _)
      | (with_reducible exact LeO.refl _)
      | (with_reducible exact LeO.none _)
      | (with_reducible refine LeO.ite ?_ ?_)
      | (with_reducible refine LeO.bind ?_ (fun _ => ?_))
      | exact ih0 _ _ _
      | exact laws_plainly.mono _ _
      | exact laws_sameRows.mono _ _ _
      | exact laws_triesWork.mono _
      | exact laws_zzFits3.mono _ _
      | exact laws_zzFits5.mono _ _
      | exact spec_MatchesOk.mono _ _
      | exact spec_Turns.mono _ _ _ _ _
      | exact LeO.none _
      | refine LeO.ite ?_ ?_
      | refine LeO.bind ?_ (fun _ => ?_)
set_option maxHeartbeats 8000000 in
set_option maxRecDepth 100000 in
theorem laws_FnTriePlain.calls (k : Nat) (A0 : Option Addr) (c0 : Nat) (l0 : List (S42)) (A1 : Option Addr) (c1 : Nat) (l1 : List ByteArray) (r : Bool) (w : World) (hr0 : Kd.C k42 w A0 l0.length l0) (hc0 : l0.length ≤ c0) (hr1 : Kd.C Kd.string w A1 l1.length l1) (hc1 : l1.length ≤ c1) (hl : Pi.Laid w) (h : laws_FnTriePlain.f k l0 l1 = some r) :
    Calls Tryz.prog 11 #[.slice A0 l0.length c0, .slice A1 l1.length c1] w fun e w' => e = .returned (.bool r) ∧ Below w.heap.size w w' := by
  have HR0 := Aside0.mk hr0
  have HC0 := Aside0.mk hc0
  clear hr0 hc0
  have HR1 := Aside0.mk hr1
  have HC1 := Aside0.mk hc1
  clear hr1 hc1
  have HLA := Aside0.mk hl
  clear hl
  have HB := Aside0.mk (Below.refl w.heap.size w)
  have H : ((laws_zzFits3.f k l0).bind fun t451 => (if t451 = true then ((laws_zzFits5.f k l1).bind fun t452 => (laws_FnTriePlain.j0 k l0 l1 (!t452))) else (laws_FnTriePlain.j0 k l0 l1 true))) = some r := h
  clear h
  have HC3 := Aside0.mk H
  clear H
  go_enter Tryz.func11, Tryz.ntmps11
  go_upto_region 1 with (fail)
  go_cut [18] (fun v18 wc => ∃ (kq : Nat) (x18_2 : Bool), v18 = .bool x18_2 ∧ Aside0 (laws_FnTriePlain.j0 kq l0 l1 x18_2 = some r) ∧ Aside0 (kq ≤ k) ∧ Aside0 (Below w.heap.size w wc))
  case first =>
    have H := HC3.out
    clear HC3
    replace H := Option.bind_eq_some_iff.mp H
    obtain ⟨t451, A40, H⟩ := H
    replace H : (if t451 = true then ((laws_zzFits5.f k l1).bind fun t452 => (laws_FnTriePlain.j0 k l0 l1 (!t452))) else (laws_FnTriePlain.j0 k l0 l1 true)) = some r := H
    have A4 := Aside0.mk A40
    clear A40
    by_cases c5 : t451 = true
    · subst c5
      have H1 : ((laws_zzFits5.f k l1).bind fun t452 => (laws_FnTriePlain.j0 k l0 l1 (!t452))) = some r := by rw [if_pos rfl] at H; exact H
      clear H
      have H := H1
      clear H1
      replace H := Option.bind_eq_some_iff.mp H
      obtain ⟨t452, A60, H⟩ := H
      replace H : (laws_FnTriePlain.j0 k l0 l1 (!t452)) = some r := H
      have A6 := Aside0.mk A60
      clear A60
      have H' := Aside0.mk H
      clear H
      go_wp2_with (first | ((with_reducible refine gate_callee (f := 22) rfl ?_); refine goesL_ (some 12) rfl rfl Tryz.func22 (by kernel_rfl) rfl #[.slice A0 l0.length c0] rfl (by (try simp only [List.map_toArray, List.map_cons, List.map_nil]); first | done | rfl | (simp only [List.length_drop, List.length_take]; rfl)) ?_; (with_reducible refine (laws_zzFits3.calls k _ _ l0 true _ ?side1 ?side2 A4.out).mono ?_); (case side1 => exact XC (Kd.C_below HR0.out HB.out)); (case side2 => exact HC0.out); rintro e w7 ⟨rfl, hb⟩; refine ⟨_, rfl, ?_⟩; have n0_ := Aside0.mk (below_step (Xb HB.out) hb); clear HB; have HB := n0_; clear n0_; (try clear hb); (try clear hb2); (try clear hk); (try clear hi)) | (go_at_call 23; (with_reducible refine (laws_zzFits5.calls k _ _ l1 t452 _ ?side1 ?side2 A6.out).mono ?_); (case side1 => exact XC (Kd.C_below HR1.out HB.out)); (case side2 => exact HC1.out); rintro e w' ⟨rfl, ⟨nd, rfl⟩⟩))
      go_meet
      case rel => exact ⟨_, (!t452), (by first | rfl | (simp; done) | (simp [*]; done)), H', ⟨by first | omega | exact Nat.le_refl _⟩, ⟨by repeat (first | (with_reducible first | exact HB.out | apply below_alloc | apply pw_below_drewN | apply below_drew1) | exact HB.out)⟩⟩
    · replace c5 := Bool.eq_false_iff.mpr c5
      subst c5
      have H1 : (laws_FnTriePlain.j0 k l0 l1 true) = some r := by rw [if_neg (show ¬ (false = true) by decide)] at H; exact H
      clear H
      have H := H1
      clear H1
      have H' := Aside0.mk H
      clear H
      go_wp2_with (first | ((with_reducible refine gate_callee (f := 22) rfl ?_); refine goesL_ (some 12) rfl rfl Tryz.func22 (by kernel_rfl) rfl #[.slice A0 l0.length c0] rfl (by (try simp only [List.map_toArray, List.map_cons, List.map_nil]); first | done | rfl | (simp only [List.length_drop, List.length_take]; rfl)) ?_; (with_reducible refine (laws_zzFits3.calls k _ _ l0 false _ ?side1 ?side2 A4.out).mono ?_); (case side1 => exact XC (Kd.C_below HR0.out HB.out)); (case side2 => exact HC0.out); rintro e w8 ⟨rfl, hb⟩; refine ⟨_, rfl, ?_⟩; have n0_ := Aside0.mk (below_step (Xb HB.out) hb); clear HB; have HB := n0_; clear n0_; (try clear hb); (try clear hb2); (try clear hk); (try clear hi)))
      go_meet
      case rel => exact ⟨_, (true), (by first | rfl | (simp; done) | (simp [*]; done)), H', ⟨by first | omega | exact Nat.le_refl _⟩, ⟨by repeat (first | (with_reducible first | exact HB.out | apply below_alloc | apply pw_below_drewN | apply below_drew1) | exact HB.out)⟩⟩
  case rest =>
    clear HC3
    try clear c1
    try clear c2
    try clear p2
    try clear c5
    obtain ⟨kq, x18_2, rfl, HA, HJ2, HB⟩ := hcut
    cases kq with
    | zero => exact absurd HA.out (by simp [laws_FnTriePlain.j0])
    | succ kj2 =>
      have H := HA.out
      clear HA
      simp only [laws_FnTriePlain.j0] at H
      by_cases c9 : x18_2 = true
      · subst c9
        have H1 : (some true) = some r := by rw [if_pos rfl] at H; exact H
        clear H
        have H := H1
        clear H1
        obtain rfl := Option.some.inj H
        go_wp2
        go_ret
        exact ⟨by first | rfl | (simp [errW_none, errW_some] <;> rfl) | (simp [*, errW_none, errW_some] <;> rfl), by repeat (first | (with_reducible first | exact HB.out | apply below_alloc | apply pw_below_drewN | apply below_drew1) | exact HB.out)⟩
      · replace c9 := Bool.eq_false_iff.mpr c9
        subst c9
        have H1 : ((spec_MatchesOk.f kj2 l0).bind fun t453 => (if t453 = true then ((laws_plainly.f kj2 l0).bind fun t455 => ((spec_Turns.f kj2 t455 false false true).bind fun t458 => ((impl_RunTrie.f t458 l1).bind fun bt461 => ((spec_Turns.f kj2 t455 false false false).bind fun t468 => ((impl_RunTrie.f t468 l1).bind fun bt471 => (if (bt461.2.1.length : Int) = (l1.length : Int) then ((laws_sameRows.f kj2 bt461.2.1 bt471.2.1).bind fun t478 => (if t478 = true then (if bt461.2.2 = bt471.2.2 then ((laws_triesWork.f kj2).bind fun t479 => (some t479)) else (some false)) else (some false))) else (some false))))))) else ((laws_triesWork.f kj2).bind fun t454 => (some t454)))) = some r := by rw [if_neg (show ¬ (false = true) by decide)] at H; exact H
        clear H
        have H := H1
        clear H1
        replace H := Option.bind_eq_some_iff.mp H
        obtain ⟨t453, A100, H⟩ := H
        replace H : (if t453 = true then ((laws_plainly.f kj2 l0).bind fun t455 => ((spec_Turns.f kj2 t455 false false true).bind fun t458 => ((impl_RunTrie.f t458 l1).bind fun bt461 => ((spec_Turns.f kj2 t455 false false false).bind fun t468 => ((impl_RunTrie.f t468 l1).bind fun bt471 => (if (bt461.2.1.length : Int) = (l1.length : Int) then ((laws_sameRows.f kj2 bt461.2.1 bt471.2.1).bind fun t478 => (if t478 = true then (if bt461.2.2 = bt471.2.2 then ((laws_triesWork.f kj2).bind fun t479 => (some t479)) else (some false)) else (some false))) else (some false))))))) else ((laws_triesWork.f kj2).bind fun t454 => (some t454))) = some r := H
        have A10 := Aside0.mk A100
        clear A100
        by_cases c11 : t453 = true
        · subst c11
          have H1 : ((laws_plainly.f kj2 l0).bind fun t455 => ((spec_Turns.f kj2 t455 false false true).bind fun t458 => ((impl_RunTrie.f t458 l1).bind fun bt461 => ((spec_Turns.f kj2 t455 false false false).bind fun t468 => ((impl_RunTrie.f t468 l1).bind fun bt471 => (if (bt461.2.1.length : Int) = (l1.length : Int) then ((laws_sameRows.f kj2 bt461.2.1 bt471.2.1).bind fun t478 => (if t478 = true then (if bt461.2.2 = bt471.2.2 then ((laws_triesWork.f kj2).bind fun t479 => (some t479)) else (some false)) else (some false))) else (some false))))))) = some r := by rw [if_pos rfl] at H; exact H
          clear H
          have H := H1
          clear H1
          replace H := Option.bind_eq_some_iff.mp H
          obtain ⟨t455, A120, H⟩ := H
          replace H : ((spec_Turns.f kj2 t455 false false true).bind fun t458 => ((impl_RunTrie.f t458 l1).bind fun bt461 => ((spec_Turns.f kj2 t455 false false false).bind fun t468 => ((impl_RunTrie.f t468 l1).bind fun bt471 => (if (bt461.2.1.length : Int) = (l1.length : Int) then ((laws_sameRows.f kj2 bt461.2.1 bt471.2.1).bind fun t478 => (if t478 = true then (if bt461.2.2 = bt471.2.2 then ((laws_triesWork.f kj2).bind fun t479 => (some t479)) else (some false)) else (some false))) else (some false)))))) = some r := H
          have A12 := Aside0.mk A120
          clear A120
          replace H := Option.bind_eq_some_iff.mp H
          obtain ⟨t458, A130, H⟩ := H
          replace H : ((impl_RunTrie.f t458 l1).bind fun bt461 => ((spec_Turns.f kj2 t455 false false false).bind fun t468 => ((impl_RunTrie.f t468 l1).bind fun bt471 => (if (bt461.2.1.length : Int) = (l1.length : Int) then ((laws_sameRows.f kj2 bt461.2.1 bt471.2.1).bind fun t478 => (if t478 = true then (if bt461.2.2 = bt471.2.2 then ((laws_triesWork.f kj2).bind fun t479 => (some t479)) else (some false)) else (some false))) else (some false))))) = some r := H
          have A13 := Aside0.mk A130
          clear A130
          replace H := Option.bind_eq_some_iff.mp H
          obtain ⟨⟨t461, t462, t463⟩, A140, H⟩ := H
          replace H : ((spec_Turns.f kj2 t455 false false false).bind fun t468 => ((impl_RunTrie.f t468 l1).bind fun bt471 => (if (t462.length : Int) = (l1.length : Int) then ((laws_sameRows.f kj2 t462 bt471.2.1).bind fun t478 => (if t478 = true then (if t463 = bt471.2.2 then ((laws_triesWork.f kj2).bind fun t479 => (some t479)) else (some false)) else (some false))) else (some false)))) = some r := H
          have A14 := Aside0.mk A140
          clear A140
          replace H := Option.bind_eq_some_iff.mp H
          obtain ⟨t468, A150, H⟩ := H
          replace H : ((impl_RunTrie.f t468 l1).bind fun bt471 => (if (t462.length : Int) = (l1.length : Int) then ((laws_sameRows.f kj2 t462 bt471.2.1).bind fun t478 => (if t478 = true then (if t463 = bt471.2.2 then ((laws_triesWork.f kj2).bind fun t479 => (some t479)) else (some false)) else (some false))) else (some false))) = some r := H
          have A15 := Aside0.mk A150
          clear A150
          replace H := Option.bind_eq_some_iff.mp H
          obtain ⟨⟨t471, t472, t473⟩, A160, H⟩ := H
          replace H : (if (t462.length : Int) = (l1.length : Int) then ((laws_sameRows.f kj2 t462 t472).bind fun t478 => (if t478 = true then (if t463 = t473 then ((laws_triesWork.f kj2).bind fun t479 => (some t479)) else (some false)) else (some false))) else (some false)) = some r := H
          have A16 := Aside0.mk A160
          clear A160
          by_cases c17 : (t462.length : Int) = (l1.length : Int)
          · rw [if_pos c17] at H
            have c17b0 : ((t462.length : Int) == (l1.length : Int)) = true := beq_iff_eq.mpr c17
            have c17b1 : ((t462.length : Int) != (l1.length : Int)) = false := bne_eq_false_iff_eq.mpr c17
            have c17b2 : (t462.length == l1.length) = true := by first | simpa using c17 | (simp at c17 ⊢; omega)
            clear c17
            replace H := Option.bind_eq_some_iff.mp H
            obtain ⟨t478, A180, H⟩ := H
            replace H : (if t478 = true then (if t463 = t473 then ((laws_triesWork.f kj2).bind fun t479 => (some t479)) else (some false)) else (some false)) = some r := H
            have A18 := Aside0.mk A180
            clear A180
            by_cases c19 : t478 = true
            · subst c19
              have H1 : (if t463 = t473 then ((laws_triesWork.f kj2).bind fun t479 => (some t479)) else (some false)) = some r := by rw [if_pos rfl] at H; exact H
              clear H
              have H := H1
              clear H1
              by_cases c20 : t463 = t473
              · rw [if_pos c20] at H
                have c20b0 : (t463 == t473) = true := beq_iff_eq.mpr c20
                have c20b1 : (t463 != t473) = false := bne_eq_false_iff_eq.mpr c20
                clear c20
                replace H := Option.bind_eq_some_iff.mp H
                obtain ⟨t479, A210, H⟩ := H
                replace H : (some t479) = some r := H
                have A21 := Aside0.mk A210
                clear A210
                obtain rfl := Option.some.inj H
                go_wp2_with (first | ((with_reducible refine gate_callee (f := 24) rfl ?_); refine goesL_ (some 20) rfl rfl Tryz.func24 (by kernel_rfl) rfl #[.slice A0 l0.length c0] rfl (by (try simp only [List.map_toArray, List.map_cons, List.map_nil]); first | done | rfl | (simp only [List.length_drop, List.length_take]; rfl)) ?_; (with_reducible refine (spec_MatchesOk.calls kj2 _ _ l0 true _ ?side1 ?side2 A10.out).mono ?_); (case side1 => exact XC (Kd.C_below HR0.out HB.out)); (case side2 => exact HC0.out); rintro e w22 ⟨rfl, hb⟩; refine ⟨_, rfl, ?_⟩; have n0_ := Aside0.mk (below_step (Xb HB.out) hb); clear HB; have HB := n0_; clear n0_; (try clear hb); (try clear hb2); (try clear hk); (try clear hi)) | ((with_reducible refine gate_callee (f := 39) rfl ?_); refine goesL_ (some 24) rfl rfl Tryz.func39 (by kernel_rfl) rfl #[.slice A0 l0.length c0] rfl (by (try simp only [List.map_toArray, List.map_cons, List.map_nil]); first | done | rfl | (simp only [List.length_drop, List.length_take]; rfl)) ?_; (with_reducible refine (laws_plainly.calls kj2 _ _ l0 t455 _ ?side1 ?side2 A12.out).mono ?_); (case side1 => exact XC (Kd.C_below HR0.out HB.out)); (case side2 => exact HC0.out); rintro e w23 ⟨v456, rfl, ho0, hb⟩; refine ⟨_, rfl, ?_⟩; have n0_ := Aside0.mk (Kd.S_lower ho0 (below_size (Xb HB.out))); have n1_ := Aside0.mk (below_step (Xb HB.out) hb); clear HB; have HO457 := n0_; have HB := n1_; clear n0_ n1_; (try clear hb); (try clear hb2); (try clear hk); (try clear hi); (try clear ho0); obtain ⟨Ao24, co24, eo24⟩ := Kd.S_slice HO457.out; subst eo24) | ((with_reducible refine gate_callee (f := 33) rfl ?_); refine goesL_ (some 27) rfl rfl Tryz.func33 (by kernel_rfl) rfl #[.slice Ao24 t455.length co24, .bool false, .bool false, .bool true] rfl (by (try simp only [List.map_toArray, List.map_cons, List.map_nil]); first | done | rfl | (simp only [List.length_drop, List.length_take]; rfl)) ?_; (with_reducible refine (spec_Turns.calls kj2 _ _ t455 false false true t458 _ ?side1 ?side2 A13.out).mono ?_); (case side1 => exact XC (Kd.S_reads' HO457.out).2.2); (case side2 => exact (Kd.S_reads' HO457.out).2.1); rintro e w25 ⟨v459, rfl, ho0, hb⟩; refine ⟨_, rfl, ?_⟩; have n0_ := Aside0.mk (Kd.S_below (XS HO457.out) hb); have n1_ := Aside0.mk (Kd.R_lower ho0 (below_size (Xb HB.out))); have n2_ := Aside0.mk (below_step (Xb HB.out) hb); clear HO457; clear HB; have HO457 := n0_; have HO460 := n1_; have HB := n2_; clear n0_ n1_ n2_; (try clear hb); (try clear hb2); (try clear hk); (try clear hi); (try clear ho0); obtain ⟨Ao26, co26, eo26⟩ := Kd.R_slice HO460.out; subst eo26) | ((with_reducible refine gate_callee (f := 32) rfl ?_); refine goesL_ (some 29) rfl rfl Tryz.func32 (by kernel_rfl) rfl #[.slice Ao26 t458.length co26, .slice A1 l1.length c1] rfl (by (try simp only [List.map_toArray, List.map_cons, List.map_nil]); first | done | rfl | (simp only [List.length_drop, List.length_take]; rfl)) ?_; (with_reducible refine (impl_RunTrie.calls _ _ t458 _ _ l1 t461 t462 t463 _ ?side1 ?side2 ?side3 ?side4 ?sidel A14.out).mono ?_); (case sidel => exact Pi.Laid.below HLA.out (Xb HB.out)); (case side1 => exact XC (Kd.R_reads' HO460.out).2.2); (case side2 => exact (Kd.R_reads' HO460.out).2.1); (case side3 => exact XC (Kd.C_below HR1.out HB.out)); (case side4 => exact HC1.out); rintro e w27 ⟨v464, v466, rfl, ho0, ho1, hb⟩; refine ⟨_, rfl, ?_⟩; have n0_ := Aside0.mk (Kd.S_below (XS HO457.out) hb); have n1_ := Aside0.mk (Kd.R_below (XR HO460.out) hb); have n2_ := Aside0.mk (Kd.R_lower ho0 (below_size (Xb HB.out))); have n3_ := Aside0.mk (Kd.S_lower ho1 (below_size (Xb HB.out))); have n4_ := Aside0.mk (below_step (Xb HB.out) hb); clear HO457; clear HO460; clear HB; have HO457 := n0_; have HO460 := n1_; have HO465 := n2_; have HO467 := n3_; have HB := n4_; clear n0_ n1_ n2_ n3_ n4_; (try clear hb); (try clear hb2); (try clear hk); (try clear hi); (try clear ho0); (try clear ho1)) | ((with_reducible refine gate_callee (f := 33) rfl ?_); refine goesL_ (some 35) rfl rfl Tryz.func33 (by kernel_rfl) rfl #[.slice Ao24 t455.length co24, .bool false, .bool false, .bool false] rfl (by (try simp only [List.map_toArray, List.map_cons, List.map_nil]); first | done | rfl | (simp only [List.length_drop, List.length_take]; rfl)) ?_; (with_reducible refine (spec_Turns.calls kj2 _ _ t455 false false false t468 _ ?side1 ?side2 A15.out).mono ?_); (case side1 => exact XC (Kd.S_reads' HO457.out).2.2); (case side2 => exact (Kd.S_reads' HO457.out).2.1); rintro e w28 ⟨v469, rfl, ho0, hb⟩; refine ⟨_, rfl, ?_⟩; have n0_ := Aside0.mk (Kd.S_below (XS HO457.out) hb); have n1_ := Aside0.mk (Kd.R_elder' (XR HO460.out) (Kd.R_base ho0) hb); have n2_ := Aside0.mk (Kd.R_below (XR HO465.out) hb); have n3_ := Aside0.mk (Kd.S_below (XS HO467.out) hb); have n4_ := Aside0.mk (Kd.R_lower (Kd.R_new' ho0 (Kd.R_lt (XR HO460.out))) (below_size (Xb HB.out))); have n5_ := Aside0.mk (below_step (Xb HB.out) hb); clear HO457; clear HO460; clear HO465; clear HO467; clear HB; have HO457 := n0_; have HO460 := n1_; have HO465 := n2_; have HO467 := n3_; have HO470 := n4_; have HB := n5_; clear n0_ n1_ n2_ n3_ n4_ n5_; (try clear hb); (try clear hb2); (try clear hk); (try clear hi); (try clear ho0); obtain ⟨Ao29, co29, eo29⟩ := Kd.R_slice HO470.out; subst eo29) | ((with_reducible refine gate_callee (f := 32) rfl ?_); refine goesL_ (some 37) rfl rfl Tryz.func32 (by kernel_rfl) rfl #[.slice Ao29 t468.length co29, .slice A1 l1.length c1] rfl (by (try simp only [List.map_toArray, List.map_cons, List.map_nil]); first | done | rfl | (simp only [List.length_drop, List.length_take]; rfl)) ?_; (with_reducible refine (impl_RunTrie.calls _ _ t468 _ _ l1 t471 t472 t473 _ ?side1 ?side2 ?side3 ?side4 ?sidel A16.out).mono ?_); (case sidel => exact Pi.Laid.below HLA.out (Xb HB.out)); (case side1 => exact XC (Kd.R_reads' HO470.out).2.2); (case side2 => exact (Kd.R_reads' HO470.out).2.1); (case side3 => exact XC (Kd.C_below HR1.out HB.out)); (case side4 => exact HC1.out); rintro e w30 ⟨v474, v476, rfl, ho0, ho1, hb⟩; refine ⟨_, rfl, ?_⟩; have n0_ := Aside0.mk (Kd.S_below (XS HO457.out) hb); have n1_ := Aside0.mk (Kd.R_below (XR HO460.out) hb); have n2_ := Aside0.mk (Kd.R_elder' (XR HO465.out) (Kd.R_base ho0) hb); have n3_ := Aside0.mk (Kd.S_elder' (XS HO467.out) (Kd.S_base ho1) hb); have n4_ := Aside0.mk (Kd.R_below (XR HO470.out) hb); have n5_ := Aside0.mk (Kd.R_lower (Kd.R_new' ho0 (Kd.R_lt (XR HO465.out))) (below_size (Xb HB.out))); have n6_ := Aside0.mk (Kd.S_lower (Kd.S_new' ho1 (Kd.S_lt (XS HO467.out))) (below_size (Xb HB.out))); have n7_ := Aside0.mk (below_step (Xb HB.out) hb); clear HO457; clear HO460; clear HO465; clear HO467; clear HO470; clear HB; have HO457 := n0_; have HO460 := n1_; have HO465 := n2_; have HO467 := n3_; have HO470 := n4_; have HO475 := n5_; have HO477 := n6_; have HB := n7_; clear n0_ n1_ n2_ n3_ n4_ n5_ n6_ n7_; (try clear hb); (try clear hb2); (try clear hk); (try clear hi); (try clear ho0); (try clear ho1); obtain ⟨Ao31, co31, eo31⟩ := Kd.S_slice HO467.out; subst eo31; obtain ⟨Ao32, co32, eo32⟩ := Kd.S_slice HO477.out; subst eo32) | (go_at_call 31; (with_reducible refine (laws_sameRows.calls kj2 _ _ t462 _ _ t472 true _ ?side1 ?side2 ?side3 ?side4 A18.out).mono ?_); (case side1 => exact XC (Kd.S_reads' HO467.out).2.2); (case side2 => exact (Kd.S_reads' HO467.out).2.1); (case side3 => exact XC (Kd.S_reads' HO477.out).2.2); (case side4 => exact (Kd.S_reads' HO477.out).2.1); rintro e w' ⟨rfl, ⟨nd, rfl⟩⟩) | (go_at_call 16; (with_reducible refine (laws_triesWork.calls kj2  t479 _ ?sidel A21.out).mono ?_); (case sidel => exact Pi.Laid.below HLA.out (Xb HB.out)); rintro e w33 ⟨rfl, hb⟩; have n0_ := Aside0.mk (Kd.S_below (XS HO457.out) hb); have n1_ := Aside0.mk (Kd.R_below (XR HO460.out) hb); have n2_ := Aside0.mk (Kd.R_below (XR HO465.out) hb); have n3_ := Aside0.mk (Kd.S_below (XS HO467.out) hb); have n4_ := Aside0.mk (Kd.R_below (XR HO470.out) hb); have n5_ := Aside0.mk (Kd.R_below (XR HO475.out) hb); have n6_ := Aside0.mk (Kd.S_below (XS HO477.out) hb); have n7_ := Aside0.mk (below_step (Xb HB.out) hb); clear HO457; clear HO460; clear HO465; clear HO467; clear HO470; clear HO475; clear HO477; clear HB; have HO457 := n0_; have HO460 := n1_; have HO465 := n2_; have HO467 := n3_; have HO470 := n4_; have HO475 := n5_; have HO477 := n6_; have HB := n7_; clear n0_ n1_ n2_ n3_ n4_ n5_ n6_ n7_; (try clear hb); (try clear hb2); (try clear hk); (try clear hi)))
                go_ret
                exact ⟨by first | rfl | (simp [errW_none, errW_some] <;> rfl) | (simp [*, errW_none, errW_some] <;> rfl), by repeat (first | (with_reducible first | exact HB.out | apply below_alloc | apply pw_below_drewN | apply below_drew1) | exact HB.out)⟩
              · rw [if_neg c20] at H
                have c20b0 : (t463 == t473) = false := beq_eq_false_iff_ne.mpr c20
                have c20b1 : (t463 != t473) = true := bne_iff_ne.mpr c20
                obtain rfl := Option.some.inj H
                go_wp2_with (first | ((with_reducible refine gate_callee (f := 24) rfl ?_); refine goesL_ (some 20) rfl rfl Tryz.func24 (by kernel_rfl) rfl #[.slice A0 l0.length c0] rfl (by (try simp only [List.map_toArray, List.map_cons, List.map_nil]); first | done | rfl | (simp only [List.length_drop, List.length_take]; rfl)) ?_; (with_reducible refine (spec_MatchesOk.calls kj2 _ _ l0 true _ ?side1 ?side2 A10.out).mono ?_); (case side1 => exact XC (Kd.C_below HR0.out HB.out)); (case side2 => exact HC0.out); rintro e w34 ⟨rfl, hb⟩; refine ⟨_, rfl, ?_⟩; have n0_ := Aside0.mk (below_step (Xb HB.out) hb); clear HB; have HB := n0_; clear n0_; (try clear hb); (try clear hb2); (try clear hk); (try clear hi)) | ((with_reducible refine gate_callee (f := 39) rfl ?_); refine goesL_ (some 24) rfl rfl Tryz.func39 (by kernel_rfl) rfl #[.slice A0 l0.length c0] rfl (by (try simp only [List.map_toArray, List.map_cons, List.map_nil]); first | done | rfl | (simp only [List.length_drop, List.length_take]; rfl)) ?_; (with_reducible refine (laws_plainly.calls kj2 _ _ l0 t455 _ ?side1 ?side2 A12.out).mono ?_); (case side1 => exact XC (Kd.C_below HR0.out HB.out)); (case side2 => exact HC0.out); rintro e w35 ⟨v456, rfl, ho0, hb⟩; refine ⟨_, rfl, ?_⟩; have n0_ := Aside0.mk (Kd.S_lower ho0 (below_size (Xb HB.out))); have n1_ := Aside0.mk (below_step (Xb HB.out) hb); clear HB; have HO457 := n0_; have HB := n1_; clear n0_ n1_; (try clear hb); (try clear hb2); (try clear hk); (try clear hi); (try clear ho0); obtain ⟨Ao36, co36, eo36⟩ := Kd.S_slice HO457.out; subst eo36) | ((with_reducible refine gate_callee (f := 33) rfl ?_); refine goesL_ (some 27) rfl rfl Tryz.func33 (by kernel_rfl) rfl #[.slice Ao36 t455.length co36, .bool false, .bool false, .bool true] rfl (by (try simp only [List.map_toArray, List.map_cons, List.map_nil]); first | done | rfl | (simp only [List.length_drop, List.length_take]; rfl)) ?_; (with_reducible refine (spec_Turns.calls kj2 _ _ t455 false false true t458 _ ?side1 ?side2 A13.out).mono ?_); (case side1 => exact XC (Kd.S_reads' HO457.out).2.2); (case side2 => exact (Kd.S_reads' HO457.out).2.1); rintro e w37 ⟨v459, rfl, ho0, hb⟩; refine ⟨_, rfl, ?_⟩; have n0_ := Aside0.mk (Kd.S_below (XS HO457.out) hb); have n1_ := Aside0.mk (Kd.R_lower ho0 (below_size (Xb HB.out))); have n2_ := Aside0.mk (below_step (Xb HB.out) hb); clear HO457; clear HB; have HO457 := n0_; have HO460 := n1_; have HB := n2_; clear n0_ n1_ n2_; (try clear hb); (try clear hb2); (try clear hk); (try clear hi); (try clear ho0); obtain ⟨Ao38, co38, eo38⟩ := Kd.R_slice HO460.out; subst eo38) | ((with_reducible refine gate_callee (f := 32) rfl ?_); refine goesL_ (some 29) rfl rfl Tryz.func32 (by kernel_rfl) rfl #[.slice Ao38 t458.length co38, .slice A1 l1.length c1] rfl (by (try simp only [List.map_toArray, List.map_cons, List.map_nil]); first | done | rfl | (simp only [List.length_drop, List.length_take]; rfl)) ?_; (with_reducible refine (impl_RunTrie.calls _ _ t458 _ _ l1 t461 t462 t463 _ ?side1 ?side2 ?side3 ?side4 ?sidel A14.out).mono ?_); (case sidel => exact Pi.Laid.below HLA.out (Xb HB.out)); (case side1 => exact XC (Kd.R_reads' HO460.out).2.2); (case side2 => exact (Kd.R_reads' HO460.out).2.1); (case side3 => exact XC (Kd.C_below HR1.out HB.out)); (case side4 => exact HC1.out); rintro e w39 ⟨v464, v466, rfl, ho0, ho1, hb⟩; refine ⟨_, rfl, ?_⟩; have n0_ := Aside0.mk (Kd.S_below (XS HO457.out) hb); have n1_ := Aside0.mk (Kd.R_below (XR HO460.out) hb); have n2_ := Aside0.mk (Kd.R_lower ho0 (below_size (Xb HB.out))); have n3_ := Aside0.mk (Kd.S_lower ho1 (below_size (Xb HB.out))); have n4_ := Aside0.mk (below_step (Xb HB.out) hb); clear HO457; clear HO460; clear HB; have HO457 := n0_; have HO460 := n1_; have HO465 := n2_; have HO467 := n3_; have HB := n4_; clear n0_ n1_ n2_ n3_ n4_; (try clear hb); (try clear hb2); (try clear hk); (try clear hi); (try clear ho0); (try clear ho1)) | ((with_reducible refine gate_callee (f := 33) rfl ?_); refine goesL_ (some 35) rfl rfl Tryz.func33 (by kernel_rfl) rfl #[.slice Ao36 t455.length co36, .bool false, .bool false, .bool false] rfl (by (try simp only [List.map_toArray, List.map_cons, List.map_nil]); first | done | rfl | (simp only [List.length_drop, List.length_take]; rfl)) ?_; (with_reducible refine (spec_Turns.calls kj2 _ _ t455 false false false t468 _ ?side1 ?side2 A15.out).mono ?_); (case side1 => exact XC (Kd.S_reads' HO457.out).2.2); (case side2 => exact (Kd.S_reads' HO457.out).2.1); rintro e w40 ⟨v469, rfl, ho0, hb⟩; refine ⟨_, rfl, ?_⟩; have n0_ := Aside0.mk (Kd.S_below (XS HO457.out) hb); have n1_ := Aside0.mk (Kd.R_elder' (XR HO460.out) (Kd.R_base ho0) hb); have n2_ := Aside0.mk (Kd.R_below (XR HO465.out) hb); have n3_ := Aside0.mk (Kd.S_below (XS HO467.out) hb); have n4_ := Aside0.mk (Kd.R_lower (Kd.R_new' ho0 (Kd.R_lt (XR HO460.out))) (below_size (Xb HB.out))); have n5_ := Aside0.mk (below_step (Xb HB.out) hb); clear HO457; clear HO460; clear HO465; clear HO467; clear HB; have HO457 := n0_; have HO460 := n1_; have HO465 := n2_; have HO467 := n3_; have HO470 := n4_; have HB := n5_; clear n0_ n1_ n2_ n3_ n4_ n5_; (try clear hb); (try clear hb2); (try clear hk); (try clear hi); (try clear ho0); obtain ⟨Ao41, co41, eo41⟩ := Kd.R_slice HO470.out; subst eo41) | ((with_reducible refine gate_callee (f := 32) rfl ?_); refine goesL_ (some 37) rfl rfl Tryz.func32 (by kernel_rfl) rfl #[.slice Ao41 t468.length co41, .slice A1 l1.length c1] rfl (by (try simp only [List.map_toArray, List.map_cons, List.map_nil]); first | done | rfl | (simp only [List.length_drop, List.length_take]; rfl)) ?_; (with_reducible refine (impl_RunTrie.calls _ _ t468 _ _ l1 t471 t472 t473 _ ?side1 ?side2 ?side3 ?side4 ?sidel A16.out).mono ?_); (case sidel => exact Pi.Laid.below HLA.out (Xb HB.out)); (case side1 => exact XC (Kd.R_reads' HO470.out).2.2); (case side2 => exact (Kd.R_reads' HO470.out).2.1); (case side3 => exact XC (Kd.C_below HR1.out HB.out)); (case side4 => exact HC1.out); rintro e w42 ⟨v474, v476, rfl, ho0, ho1, hb⟩; refine ⟨_, rfl, ?_⟩; have n0_ := Aside0.mk (Kd.S_below (XS HO457.out) hb); have n1_ := Aside0.mk (Kd.R_below (XR HO460.out) hb); have n2_ := Aside0.mk (Kd.R_elder' (XR HO465.out) (Kd.R_base ho0) hb); have n3_ := Aside0.mk (Kd.S_elder' (XS HO467.out) (Kd.S_base ho1) hb); have n4_ := Aside0.mk (Kd.R_below (XR HO470.out) hb); have n5_ := Aside0.mk (Kd.R_lower (Kd.R_new' ho0 (Kd.R_lt (XR HO465.out))) (below_size (Xb HB.out))); have n6_ := Aside0.mk (Kd.S_lower (Kd.S_new' ho1 (Kd.S_lt (XS HO467.out))) (below_size (Xb HB.out))); have n7_ := Aside0.mk (below_step (Xb HB.out) hb); clear HO457; clear HO460; clear HO465; clear HO467; clear HO470; clear HB; have HO457 := n0_; have HO460 := n1_; have HO465 := n2_; have HO467 := n3_; have HO470 := n4_; have HO475 := n5_; have HO477 := n6_; have HB := n7_; clear n0_ n1_ n2_ n3_ n4_ n5_ n6_ n7_; (try clear hb); (try clear hb2); (try clear hk); (try clear hi); (try clear ho0); (try clear ho1); obtain ⟨Ao43, co43, eo43⟩ := Kd.S_slice HO467.out; subst eo43; obtain ⟨Ao44, co44, eo44⟩ := Kd.S_slice HO477.out; subst eo44) | (go_at_call 31; (with_reducible refine (laws_sameRows.calls kj2 _ _ t462 _ _ t472 true _ ?side1 ?side2 ?side3 ?side4 A18.out).mono ?_); (case side1 => exact XC (Kd.S_reads' HO467.out).2.2); (case side2 => exact (Kd.S_reads' HO467.out).2.1); (case side3 => exact XC (Kd.S_reads' HO477.out).2.2); (case side4 => exact (Kd.S_reads' HO477.out).2.1); rintro e w' ⟨rfl, ⟨nd, rfl⟩⟩))
                go_ret
                exact ⟨by first | rfl | (simp [errW_none, errW_some] <;> rfl) | (simp [*, errW_none, errW_some] <;> rfl), by repeat (first | (with_reducible first | exact HB.out | apply below_alloc | apply pw_below_drewN | apply below_drew1) | exact HB.out)⟩
            · replace c19 := Bool.eq_false_iff.mpr c19
              subst c19
              have H1 : (some false) = some r := by rw [if_neg (show ¬ (false = true) by decide)] at H; exact H
              clear H
              have H := H1
              clear H1
              obtain rfl := Option.some.inj H
              go_wp2_with (first | ((with_reducible refine gate_callee (f := 24) rfl ?_); refine goesL_ (some 20) rfl rfl Tryz.func24 (by kernel_rfl) rfl #[.slice A0 l0.length c0] rfl (by (try simp only [List.map_toArray, List.map_cons, List.map_nil]); first | done | rfl | (simp only [List.length_drop, List.length_take]; rfl)) ?_; (with_reducible refine (spec_MatchesOk.calls kj2 _ _ l0 true _ ?side1 ?side2 A10.out).mono ?_); (case side1 => exact XC (Kd.C_below HR0.out HB.out)); (case side2 => exact HC0.out); rintro e w45 ⟨rfl, hb⟩; refine ⟨_, rfl, ?_⟩; have n0_ := Aside0.mk (below_step (Xb HB.out) hb); clear HB; have HB := n0_; clear n0_; (try clear hb); (try clear hb2); (try clear hk); (try clear hi)) | ((with_reducible refine gate_callee (f := 39) rfl ?_); refine goesL_ (some 24) rfl rfl Tryz.func39 (by kernel_rfl) rfl #[.slice A0 l0.length c0] rfl (by (try simp only [List.map_toArray, List.map_cons, List.map_nil]); first | done | rfl | (simp only [List.length_drop, List.length_take]; rfl)) ?_; (with_reducible refine (laws_plainly.calls kj2 _ _ l0 t455 _ ?side1 ?side2 A12.out).mono ?_); (case side1 => exact XC (Kd.C_below HR0.out HB.out)); (case side2 => exact HC0.out); rintro e w46 ⟨v456, rfl, ho0, hb⟩; refine ⟨_, rfl, ?_⟩; have n0_ := Aside0.mk (Kd.S_lower ho0 (below_size (Xb HB.out))); have n1_ := Aside0.mk (below_step (Xb HB.out) hb); clear HB; have HO457 := n0_; have HB := n1_; clear n0_ n1_; (try clear hb); (try clear hb2); (try clear hk); (try clear hi); (try clear ho0); obtain ⟨Ao47, co47, eo47⟩ := Kd.S_slice HO457.out; subst eo47) | ((with_reducible refine gate_callee (f := 33) rfl ?_); refine goesL_ (some 27) rfl rfl Tryz.func33 (by kernel_rfl) rfl #[.slice Ao47 t455.length co47, .bool false, .bool false, .bool true] rfl (by (try simp only [List.map_toArray, List.map_cons, List.map_nil]); first | done | rfl | (simp only [List.length_drop, List.length_take]; rfl)) ?_; (with_reducible refine (spec_Turns.calls kj2 _ _ t455 false false true t458 _ ?side1 ?side2 A13.out).mono ?_); (case side1 => exact XC (Kd.S_reads' HO457.out).2.2); (case side2 => exact (Kd.S_reads' HO457.out).2.1); rintro e w48 ⟨v459, rfl, ho0, hb⟩; refine ⟨_, rfl, ?_⟩; have n0_ := Aside0.mk (Kd.S_below (XS HO457.out) hb); have n1_ := Aside0.mk (Kd.R_lower ho0 (below_size (Xb HB.out))); have n2_ := Aside0.mk (below_step (Xb HB.out) hb); clear HO457; clear HB; have HO457 := n0_; have HO460 := n1_; have HB := n2_; clear n0_ n1_ n2_; (try clear hb); (try clear hb2); (try clear hk); (try clear hi); (try clear ho0); obtain ⟨Ao49, co49, eo49⟩ := Kd.R_slice HO460.out; subst eo49) | ((with_reducible refine gate_callee (f := 32) rfl ?_); refine goesL_ (some 29) rfl rfl Tryz.func32 (by kernel_rfl) rfl #[.slice Ao49 t458.length co49, .slice A1 l1.length c1] rfl (by (try simp only [List.map_toArray, List.map_cons, List.map_nil]); first | done | rfl | (simp only [List.length_drop, List.length_take]; rfl)) ?_; (with_reducible refine (impl_RunTrie.calls _ _ t458 _ _ l1 t461 t462 t463 _ ?side1 ?side2 ?side3 ?side4 ?sidel A14.out).mono ?_); (case sidel => exact Pi.Laid.below HLA.out (Xb HB.out)); (case side1 => exact XC (Kd.R_reads' HO460.out).2.2); (case side2 => exact (Kd.R_reads' HO460.out).2.1); (case side3 => exact XC (Kd.C_below HR1.out HB.out)); (case side4 => exact HC1.out); rintro e w50 ⟨v464, v466, rfl, ho0, ho1, hb⟩; refine ⟨_, rfl, ?_⟩; have n0_ := Aside0.mk (Kd.S_below (XS HO457.out) hb); have n1_ := Aside0.mk (Kd.R_below (XR HO460.out) hb); have n2_ := Aside0.mk (Kd.R_lower ho0 (below_size (Xb HB.out))); have n3_ := Aside0.mk (Kd.S_lower ho1 (below_size (Xb HB.out))); have n4_ := Aside0.mk (below_step (Xb HB.out) hb); clear HO457; clear HO460; clear HB; have HO457 := n0_; have HO460 := n1_; have HO465 := n2_; have HO467 := n3_; have HB := n4_; clear n0_ n1_ n2_ n3_ n4_; (try clear hb); (try clear hb2); (try clear hk); (try clear hi); (try clear ho0); (try clear ho1)) | ((with_reducible refine gate_callee (f := 33) rfl ?_); refine goesL_ (some 35) rfl rfl Tryz.func33 (by kernel_rfl) rfl #[.slice Ao47 t455.length co47, .bool false, .bool false, .bool false] rfl (by (try simp only [List.map_toArray, List.map_cons, List.map_nil]); first | done | rfl | (simp only [List.length_drop, List.length_take]; rfl)) ?_; (with_reducible refine (spec_Turns.calls kj2 _ _ t455 false false false t468 _ ?side1 ?side2 A15.out).mono ?_); (case side1 => exact XC (Kd.S_reads' HO457.out).2.2); (case side2 => exact (Kd.S_reads' HO457.out).2.1); rintro e w51 ⟨v469, rfl, ho0, hb⟩; refine ⟨_, rfl, ?_⟩; have n0_ := Aside0.mk (Kd.S_below (XS HO457.out) hb); have n1_ := Aside0.mk (Kd.R_elder' (XR HO460.out) (Kd.R_base ho0) hb); have n2_ := Aside0.mk (Kd.R_below (XR HO465.out) hb); have n3_ := Aside0.mk (Kd.S_below (XS HO467.out) hb); have n4_ := Aside0.mk (Kd.R_lower (Kd.R_new' ho0 (Kd.R_lt (XR HO460.out))) (below_size (Xb HB.out))); have n5_ := Aside0.mk (below_step (Xb HB.out) hb); clear HO457; clear HO460; clear HO465; clear HO467; clear HB; have HO457 := n0_; have HO460 := n1_; have HO465 := n2_; have HO467 := n3_; have HO470 := n4_; have HB := n5_; clear n0_ n1_ n2_ n3_ n4_ n5_; (try clear hb); (try clear hb2); (try clear hk); (try clear hi); (try clear ho0); obtain ⟨Ao52, co52, eo52⟩ := Kd.R_slice HO470.out; subst eo52) | ((with_reducible refine gate_callee (f := 32) rfl ?_); refine goesL_ (some 37) rfl rfl Tryz.func32 (by kernel_rfl) rfl #[.slice Ao52 t468.length co52, .slice A1 l1.length c1] rfl (by (try simp only [List.map_toArray, List.map_cons, List.map_nil]); first | done | rfl | (simp only [List.length_drop, List.length_take]; rfl)) ?_; (with_reducible refine (impl_RunTrie.calls _ _ t468 _ _ l1 t471 t472 t473 _ ?side1 ?side2 ?side3 ?side4 ?sidel A16.out).mono ?_); (case sidel => exact Pi.Laid.below HLA.out (Xb HB.out)); (case side1 => exact XC (Kd.R_reads' HO470.out).2.2); (case side2 => exact (Kd.R_reads' HO470.out).2.1); (case side3 => exact XC (Kd.C_below HR1.out HB.out)); (case side4 => exact HC1.out); rintro e w53 ⟨v474, v476, rfl, ho0, ho1, hb⟩; refine ⟨_, rfl, ?_⟩; have n0_ := Aside0.mk (Kd.S_below (XS HO457.out) hb); have n1_ := Aside0.mk (Kd.R_below (XR HO460.out) hb); have n2_ := Aside0.mk (Kd.R_elder' (XR HO465.out) (Kd.R_base ho0) hb); have n3_ := Aside0.mk (Kd.S_elder' (XS HO467.out) (Kd.S_base ho1) hb); have n4_ := Aside0.mk (Kd.R_below (XR HO470.out) hb); have n5_ := Aside0.mk (Kd.R_lower (Kd.R_new' ho0 (Kd.R_lt (XR HO465.out))) (below_size (Xb HB.out))); have n6_ := Aside0.mk (Kd.S_lower (Kd.S_new' ho1 (Kd.S_lt (XS HO467.out))) (below_size (Xb HB.out))); have n7_ := Aside0.mk (below_step (Xb HB.out) hb); clear HO457; clear HO460; clear HO465; clear HO467; clear HO470; clear HB; have HO457 := n0_; have HO460 := n1_; have HO465 := n2_; have HO467 := n3_; have HO470 := n4_; have HO475 := n5_; have HO477 := n6_; have HB := n7_; clear n0_ n1_ n2_ n3_ n4_ n5_ n6_ n7_; (try clear hb); (try clear hb2); (try clear hk); (try clear hi); (try clear ho0); (try clear ho1); obtain ⟨Ao54, co54, eo54⟩ := Kd.S_slice HO467.out; subst eo54; obtain ⟨Ao55, co55, eo55⟩ := Kd.S_slice HO477.out; subst eo55) | (go_at_call 31; (with_reducible refine (laws_sameRows.calls kj2 _ _ t462 _ _ t472 false _ ?side1 ?side2 ?side3 ?side4 A18.out).mono ?_); (case side1 => exact XC (Kd.S_reads' HO467.out).2.2); (case side2 => exact (Kd.S_reads' HO467.out).2.1); (case side3 => exact XC (Kd.S_reads' HO477.out).2.2); (case side4 => exact (Kd.S_reads' HO477.out).2.1); rintro e w' ⟨rfl, ⟨nd, rfl⟩⟩))
              go_ret
              exact ⟨by first | rfl | (simp [errW_none, errW_some] <;> rfl) | (simp [*, errW_none, errW_some] <;> rfl), by repeat (first | (with_reducible first | exact HB.out | apply below_alloc | apply pw_below_drewN | apply below_drew1) | exact HB.out)⟩
          · rw [if_neg c17] at H
            have c17b0 : ((t462.length : Int) == (l1.length : Int)) = false := beq_eq_false_iff_ne.mpr c17
            have c17b1 : ((t462.length : Int) != (l1.length : Int)) = true := bne_iff_ne.mpr c17
            have c17b2 : (t462.length == l1.length) = false := by first | simpa using c17 | (simp at c17 ⊢; omega)
            obtain rfl := Option.some.inj H
            go_wp2_with (first | ((with_reducible refine gate_callee (f := 24) rfl ?_); refine goesL_ (some 20) rfl rfl Tryz.func24 (by kernel_rfl) rfl #[.slice A0 l0.length c0] rfl (by (try simp only [List.map_toArray, List.map_cons, List.map_nil]); first | done | rfl | (simp only [List.length_drop, List.length_take]; rfl)) ?_; (with_reducible refine (spec_MatchesOk.calls kj2 _ _ l0 true _ ?side1 ?side2 A10.out).mono ?_); (case side1 => exact XC (Kd.C_below HR0.out HB.out)); (case side2 => exact HC0.out); rintro e w56 ⟨rfl, hb⟩; refine ⟨_, rfl, ?_⟩; have n0_ := Aside0.mk (below_step (Xb HB.out) hb); clear HB; have HB := n0_; clear n0_; (try clear hb); (try clear hb2); (try clear hk); (try clear hi)) | ((with_reducible refine gate_callee (f := 39) rfl ?_); refine goesL_ (some 24) rfl rfl Tryz.func39 (by kernel_rfl) rfl #[.slice A0 l0.length c0] rfl (by (try simp only [List.map_toArray, List.map_cons, List.map_nil]); first | done | rfl | (simp only [List.length_drop, List.length_take]; rfl)) ?_; (with_reducible refine (laws_plainly.calls kj2 _ _ l0 t455 _ ?side1 ?side2 A12.out).mono ?_); (case side1 => exact XC (Kd.C_below HR0.out HB.out)); (case side2 => exact HC0.out); rintro e w57 ⟨v456, rfl, ho0, hb⟩; refine ⟨_, rfl, ?_⟩; have n0_ := Aside0.mk (Kd.S_lower ho0 (below_size (Xb HB.out))); have n1_ := Aside0.mk (below_step (Xb HB.out) hb); clear HB; have HO457 := n0_; have HB := n1_; clear n0_ n1_; (try clear hb); (try clear hb2); (try clear hk); (try clear hi); (try clear ho0); obtain ⟨Ao58, co58, eo58⟩ := Kd.S_slice HO457.out; subst eo58) | ((with_reducible refine gate_callee (f := 33) rfl ?_); refine goesL_ (some 27) rfl rfl Tryz.func33 (by kernel_rfl) rfl #[.slice Ao58 t455.length co58, .bool false, .bool false, .bool true] rfl (by (try simp only [List.map_toArray, List.map_cons, List.map_nil]); first | done | rfl | (simp only [List.length_drop, List.length_take]; rfl)) ?_; (with_reducible refine (spec_Turns.calls kj2 _ _ t455 false false true t458 _ ?side1 ?side2 A13.out).mono ?_); (case side1 => exact XC (Kd.S_reads' HO457.out).2.2); (case side2 => exact (Kd.S_reads' HO457.out).2.1); rintro e w59 ⟨v459, rfl, ho0, hb⟩; refine ⟨_, rfl, ?_⟩; have n0_ := Aside0.mk (Kd.S_below (XS HO457.out) hb); have n1_ := Aside0.mk (Kd.R_lower ho0 (below_size (Xb HB.out))); have n2_ := Aside0.mk (below_step (Xb HB.out) hb); clear HO457; clear HB; have HO457 := n0_; have HO460 := n1_; have HB := n2_; clear n0_ n1_ n2_; (try clear hb); (try clear hb2); (try clear hk); (try clear hi); (try clear ho0); obtain ⟨Ao60, co60, eo60⟩ := Kd.R_slice HO460.out; subst eo60) | ((with_reducible refine gate_callee (f := 32) rfl ?_); refine goesL_ (some 29) rfl rfl Tryz.func32 (by kernel_rfl) rfl #[.slice Ao60 t458.length co60, .slice A1 l1.length c1] rfl (by (try simp only [List.map_toArray, List.map_cons, List.map_nil]); first | done | rfl | (simp only [List.length_drop, List.length_take]; rfl)) ?_; (with_reducible refine (impl_RunTrie.calls _ _ t458 _ _ l1 t461 t462 t463 _ ?side1 ?side2 ?side3 ?side4 ?sidel A14.out).mono ?_); (case sidel => exact Pi.Laid.below HLA.out (Xb HB.out)); (case side1 => exact XC (Kd.R_reads' HO460.out).2.2); (case side2 => exact (Kd.R_reads' HO460.out).2.1); (case side3 => exact XC (Kd.C_below HR1.out HB.out)); (case side4 => exact HC1.out); rintro e w61 ⟨v464, v466, rfl, ho0, ho1, hb⟩; refine ⟨_, rfl, ?_⟩; have n0_ := Aside0.mk (Kd.S_below (XS HO457.out) hb); have n1_ := Aside0.mk (Kd.R_below (XR HO460.out) hb); have n2_ := Aside0.mk (Kd.R_lower ho0 (below_size (Xb HB.out))); have n3_ := Aside0.mk (Kd.S_lower ho1 (below_size (Xb HB.out))); have n4_ := Aside0.mk (below_step (Xb HB.out) hb); clear HO457; clear HO460; clear HB; have HO457 := n0_; have HO460 := n1_; have HO465 := n2_; have HO467 := n3_; have HB := n4_; clear n0_ n1_ n2_ n3_ n4_; (try clear hb); (try clear hb2); (try clear hk); (try clear hi); (try clear ho0); (try clear ho1)) | ((with_reducible refine gate_callee (f := 33) rfl ?_); refine goesL_ (some 35) rfl rfl Tryz.func33 (by kernel_rfl) rfl #[.slice Ao58 t455.length co58, .bool false, .bool false, .bool false] rfl (by (try simp only [List.map_toArray, List.map_cons, List.map_nil]); first | done | rfl | (simp only [List.length_drop, List.length_take]; rfl)) ?_; (with_reducible refine (spec_Turns.calls kj2 _ _ t455 false false false t468 _ ?side1 ?side2 A15.out).mono ?_); (case side1 => exact XC (Kd.S_reads' HO457.out).2.2); (case side2 => exact (Kd.S_reads' HO457.out).2.1); rintro e w62 ⟨v469, rfl, ho0, hb⟩; refine ⟨_, rfl, ?_⟩; have n0_ := Aside0.mk (Kd.S_below (XS HO457.out) hb); have n1_ := Aside0.mk (Kd.R_elder' (XR HO460.out) (Kd.R_base ho0) hb); have n2_ := Aside0.mk (Kd.R_below (XR HO465.out) hb); have n3_ := Aside0.mk (Kd.S_below (XS HO467.out) hb); have n4_ := Aside0.mk (Kd.R_lower (Kd.R_new' ho0 (Kd.R_lt (XR HO460.out))) (below_size (Xb HB.out))); have n5_ := Aside0.mk (below_step (Xb HB.out) hb); clear HO457; clear HO460; clear HO465; clear HO467; clear HB; have HO457 := n0_; have HO460 := n1_; have HO465 := n2_; have HO467 := n3_; have HO470 := n4_; have HB := n5_; clear n0_ n1_ n2_ n3_ n4_ n5_; (try clear hb); (try clear hb2); (try clear hk); (try clear hi); (try clear ho0); obtain ⟨Ao63, co63, eo63⟩ := Kd.R_slice HO470.out; subst eo63) | ((with_reducible refine gate_callee (f := 32) rfl ?_); refine goesL_ (some 37) rfl rfl Tryz.func32 (by kernel_rfl) rfl #[.slice Ao63 t468.length co63, .slice A1 l1.length c1] rfl (by (try simp only [List.map_toArray, List.map_cons, List.map_nil]); first | done | rfl | (simp only [List.length_drop, List.length_take]; rfl)) ?_; (with_reducible refine (impl_RunTrie.calls _ _ t468 _ _ l1 t471 t472 t473 _ ?side1 ?side2 ?side3 ?side4 ?sidel A16.out).mono ?_); (case sidel => exact Pi.Laid.below HLA.out (Xb HB.out)); (case side1 => exact XC (Kd.R_reads' HO470.out).2.2); (case side2 => exact (Kd.R_reads' HO470.out).2.1); (case side3 => exact XC (Kd.C_below HR1.out HB.out)); (case side4 => exact HC1.out); rintro e w64 ⟨v474, v476, rfl, ho0, ho1, hb⟩; refine ⟨_, rfl, ?_⟩; have n0_ := Aside0.mk (Kd.S_below (XS HO457.out) hb); have n1_ := Aside0.mk (Kd.R_below (XR HO460.out) hb); have n2_ := Aside0.mk (Kd.R_elder' (XR HO465.out) (Kd.R_base ho0) hb); have n3_ := Aside0.mk (Kd.S_elder' (XS HO467.out) (Kd.S_base ho1) hb); have n4_ := Aside0.mk (Kd.R_below (XR HO470.out) hb); have n5_ := Aside0.mk (Kd.R_lower (Kd.R_new' ho0 (Kd.R_lt (XR HO465.out))) (below_size (Xb HB.out))); have n6_ := Aside0.mk (Kd.S_lower (Kd.S_new' ho1 (Kd.S_lt (XS HO467.out))) (below_size (Xb HB.out))); have n7_ := Aside0.mk (below_step (Xb HB.out) hb); clear HO457; clear HO460; clear HO465; clear HO467; clear HO470; clear HB; have HO457 := n0_; have HO460 := n1_; have HO465 := n2_; have HO467 := n3_; have HO470 := n4_; have HO475 := n5_; have HO477 := n6_; have HB := n7_; clear n0_ n1_ n2_ n3_ n4_ n5_ n6_ n7_; (try clear hb); (try clear hb2); (try clear hk); (try clear hi); (try clear ho0); (try clear ho1); obtain ⟨Ao65, co65, eo65⟩ := Kd.S_slice HO467.out; subst eo65))
            go_ret
            exact ⟨by first | rfl | (simp [errW_none, errW_some] <;> rfl) | (simp [*, errW_none, errW_some] <;> rfl), by repeat (first | (with_reducible first | exact HB.out | apply below_alloc | apply pw_below_drewN | apply below_drew1) | exact HB.out)⟩
        · replace c11 := Bool.eq_false_iff.mpr c11
          subst c11
          have H1 : ((laws_triesWork.f kj2).bind fun t454 => (some t454)) = some r := by rw [if_neg (show ¬ (false = true) by decide)] at H; exact H
          clear H
          have H := H1
          clear H1
          replace H := Option.bind_eq_some_iff.mp H
          obtain ⟨t454, A660, H⟩ := H
          replace H : (some t454) = some r := H
          have A66 := Aside0.mk A660
          clear A660
          obtain rfl := Option.some.inj H
          go_wp2_with (first | ((with_reducible refine gate_callee (f := 24) rfl ?_); refine goesL_ (some 20) rfl rfl Tryz.func24 (by kernel_rfl) rfl #[.slice A0 l0.length c0] rfl (by (try simp only [List.map_toArray, List.map_cons, List.map_nil]); first | done | rfl | (simp only [List.length_drop, List.length_take]; rfl)) ?_; (with_reducible refine (spec_MatchesOk.calls kj2 _ _ l0 false _ ?side1 ?side2 A10.out).mono ?_); (case side1 => exact XC (Kd.C_below HR0.out HB.out)); (case side2 => exact HC0.out); rintro e w67 ⟨rfl, hb⟩; refine ⟨_, rfl, ?_⟩; have n0_ := Aside0.mk (below_step (Xb HB.out) hb); clear HB; have HB := n0_; clear n0_; (try clear hb); (try clear hb2); (try clear hk); (try clear hi)) | ((with_reducible refine gate_callee (f := 16) rfl ?_); refine goesL_ (some 22) rfl rfl Tryz.func16 (by kernel_rfl) rfl #[] rfl (by (try simp only [List.map_toArray, List.map_cons, List.map_nil]); first | done | rfl | (simp only [List.length_drop, List.length_take]; rfl)) ?_; (with_reducible refine (laws_triesWork.calls kj2  t454 _ ?sidel A66.out).mono ?_); (case sidel => exact Pi.Laid.below HLA.out (Xb HB.out)); rintro e w68 ⟨rfl, hb⟩; refine ⟨_, rfl, ?_⟩; have n0_ := Aside0.mk (below_step (Xb HB.out) hb); clear HB; have HB := n0_; clear n0_; (try clear hb); (try clear hb2); (try clear hk); (try clear hi)))
          go_ret
          exact ⟨by first | rfl | (simp [errW_none, errW_some] <;> rfl) | (simp [*, errW_none, errW_some] <;> rfl), by repeat (first | (with_reducible first | exact HB.out | apply below_alloc | apply pw_below_drewN | apply below_drew1) | exact HB.out)⟩
end Go.Proofs.YtnoolgbbpekomaaGreatDoor.T
