/- As the print has them, turned for the tree: laws_FnTrieTurned. -/
import Derived.Test.YtnoolgbbpekomaaGreatDoorVz
import Derived.Test.YtnoolgbbpekomaaGreatDoorUa
import Derived.Test.YtnoolgbbpekomaaGreatDoorUb
import Derived.Test.YtnoolgbbpekomaaGreatDoorUz
import Derived.Test.YtnoolgbbpekomaaGreatDoorUg
import Derived.Test.YtnoolgbbpekomaaGreatDoorUi
import Derived.Test.YtnoolgbbpekomaaGreatDoorVw
namespace Go.Proofs.YtnoolgbbpekomaaGreatDoor.T
open Go.RowKit YtnoolgbbpekomaaGreatDoorW.PrintWords YtnoolgbbpekomaaGreatDoorW.PrintLast YtnoolgbbpekomaaGreatDoorW.PrintMore
attribute [local go_sem] max2_int min2_int max_two min_two max_three min_three max_four min_four   -- for this text's walks alone
set_option linter.unusedVariables false
set_option linter.unusedSimpArgs false
/-! ### laws_FnTrieTurned: function 13 -/
mutual
noncomputable def laws_FnTrieTurned.j0 : Nat → List (S42) → List ByteArray → Bool → Option (Bool)
  | 0, _, _, _ => none
  | k + 1, x0, x1, x16 => if x16 = true then (some true) else ((spec_MatchesOk.f k x0).bind fun t490 => (if t490 = true then ((laws_there.f k x0).bind fun t492 => (laws_FnTrieTurned.l0 k t492 x1 (([] : List (S42))) (t492.length : Int) 0)) else ((laws_triesWork.f k).bind fun t491 => (some t491))))
noncomputable def laws_FnTrieTurned.l0 : Nat → List (S42) → List ByteArray → List (S42) → Int → Int → Option (Bool)
  | 0, _, _, _, _, _ => none
  | k + 1, x0, x1, x5, x25, x26 => if x26 < x25 then (if 0 ≤ (wrap64 ((wrap64 ((x0.length : Int) - 1)) - x26)) then (if (wrap64 ((wrap64 ((x0.length : Int) - 1)) - x26)) < (x0.length : Int) then (if x5.length < 2513169434916 then (laws_FnTrieTurned.l0 k x0 x1 (x5 ++ [(⟨(rd_T42 x0 (wrap64 ((wrap64 ((x0.length : Int) - 1)) - x26))).f0, (rd_T42 x0 (wrap64 ((wrap64 ((x0.length : Int) - 1)) - x26))).f1, (rd_T42 x0 (wrap64 ((wrap64 ((x0.length : Int) - 1)) - x26))).f2, (rd_T42 x0 (wrap64 ((wrap64 ((x0.length : Int) - 1)) - x26))).f3⟩ : S42)]) x25 (wrap64 (x26 + 1))) else (none)) else (none)) else (none)) else ((laws_of.f k x0 x1).bind fun t502 => ((laws_of.f k x5 x1).bind fun t505 => (if (t502.length : Int) = (x1.length : Int) then ((laws_sameRows.f k t502 t505).bind fun t508 => (if t508 = true then ((laws_triesWork.f k).bind fun t509 => (some t509)) else (some false))) else (some false))))
end
noncomputable def laws_FnTrieTurned.f (k : Nat) (l0 : List (S42)) (l1 : List ByteArray) : Option (Bool) := (laws_zzFits3.f k l0).bind fun t488 => (if t488 = true then ((laws_zzFits5.f k l1).bind fun t489 => (laws_FnTrieTurned.j0 k l0 l1 (!t489))) else (laws_FnTrieTurned.j0 k l0 l1 true))
theorem laws_FnTrieTurned.mono_l : ∀ k, (∀ y0 y1 y2, LeO (laws_FnTrieTurned.j0 k y0 y1 y2) (laws_FnTrieTurned.j0 (k + 1) y0 y1 y2)) ∧ (∀ y0 y1 y2 y3 y4, LeO (laws_FnTrieTurned.l0 k y0 y1 y2 y3 y4) (laws_FnTrieTurned.l0 (k + 1) y0 y1 y2 y3 y4))
  | 0 => ⟨fun _ _ _ r h => by simp [laws_FnTrieTurned.j0] at h, fun _ _ _ _ _ r h => by simp [laws_FnTrieTurned.l0] at h⟩
  | k + 1 => by
    obtain ⟨ih0, ih1⟩ := laws_FnTrieTurned.mono_l k
    refine ⟨?_, ?_⟩
    · intro y0 y1 y2
      unfold laws_FnTrieTurned.j0
      repeat' first
      | (with_reducible exact ih0 _ _ _)
      | (with_reducible exact ih1 _ _ _ _ _)
      | (with_reducible exact laws_of.mono _ _ _)
      | (with_reducible exact laws_sameRows.mono _ _ _)
      | (with_reducible exact laws_there.mono _ _)
      | (with_reducible exact laws_triesWork.mono _)
      | (with_reducible exact laws_zzFits3.mono _ _)
      | (with_reducible exact laws_zzFits5.mono _ _)
      | (with_reducible exact spec_MatchesOk.mono _ _)
      | (with_reducible exact LeO.refl _)
      | (with_reducible exact LeO.none _)
      | (with_reducible refine LeO.ite ?_ ?_)
      | (with_reducible refine LeO.bind ?_ (fun _ => ?_))
      | exact ih0 _ _ _
      | exact ih1 _ _ _ _ _
      | exact laws_of.mono _ _ _
      | exact laws_sameRows.mono _ _ _
      | exact laws_there.mono _ _
      | exact laws_triesWork.mono _
      | exact laws_zzFits3.mono _ _
      | exact laws_zzFits5.mono _ _
      | exact spec_MatchesOk.mono _ _
      | exact LeO.none _
      | refine LeO.ite ?_ ?_
      | refine LeO.bind ?_ (fun _ => ?_)
    · intro y0 y1 y2 y3 y4
      unfold laws_FnTrieTurned.l0
      repeat' first
      | (with_reducible exact ih0 _ _ _)
      | (with_reducible exact ih1 _ _ _ _ _)
      | (with_reducible exact laws_of.mono _ _ _)
      | (with_reducible exact laws_sameRows.mono _ _ _)
      | (with_reducible exact laws_there.mono _ _)
      | (with_reducible exact laws_triesWork.mono _)
      | (with_reducible exact laws_zzFits3.mono _ _)
      | (with_reducible exact laws_zzFits5.mono _ _)
      | (with_reducible exact spec_MatchesOk.mono _ _)
      | (with_reducible exact LeO.refl _)
      | (with_reducible exact LeO.none _)
      | (with_reducible refine LeO.ite ?_ ?_)
      | (with_reducible refine LeO.bind ?_ (fun _ => ?_))
      | exact ih0 _ _ _
      | exact ih1 _ _ _ _ _
      | exact laws_of.mono _ _ _
      | exact laws_sameRows.mono _ _ _
      | exact laws_there.mono _ _
      | exact laws_triesWork.mono _
      | exact laws_zzFits3.mono _ _
      | exact laws_zzFits5.mono _ _
      | exact spec_MatchesOk.mono _ _
      | exact LeO.none _
      | refine LeO.ite ?_ ?_
      | refine LeO.bind ?_ (fun _ => ?_)
theorem laws_FnTrieTurned.mono : ∀ a0 a1 k, LeO (laws_FnTrieTurned.f k a0 a1) (laws_FnTrieTurned.f (k + 1) a0 a1) := by
  intro a0 a1 k
  obtain ⟨ih0, ih1⟩ := laws_FnTrieTurned.mono_l k
  unfold laws_FnTrieTurned.f
  repeat' first
      | (with_reducible exact ih0 _ _ _)
      | (with_reducible exact ih1 _ _ _ _ _)
      | (with_reducible exact laws_of.mono _ _ _)
      | (with_reducible exact laws_sameRows.mono _ _ _)
      | (with_reducible exact laws_there.mono _ _)
      | (with_reducible exact laws_triesWork.mono _)
      | (with_reducible exact laws_zzFits3.mono _ _)
      | (with_reducible exact laws_zzFits5.mono _ _)
      | (with_reducible exact spec_MatchesOk.mono _ _)
      | (with_reducible exact LeO.refl _)
      | (with_reducible exact LeO.none _)
      | (with_reducible refine LeO.ite ?_ ?_)
      | (with_reducible refine LeO.bind ?_ (fun _ => ?_))
      | exact ih0 _ _ _
      | exact ih1 _ _ _ _ _
      | exact laws_of.mono _ _ _
      | exact laws_sameRows.mono _ _ _
      | exact laws_there.mono _ _
      | exact laws_triesWork.mono _
      | exact laws_zzFits3.mono _ _
      | exact laws_zzFits5.mono _ _
      | exact spec_MatchesOk.mono _ _
      | exact LeO.none _
      | refine LeO.ite ?_ ?_
      | refine LeO.bind ?_ (fun _ => ?_)
set_option maxHeartbeats 8000000 in
set_option maxRecDepth 100000 in
theorem laws_FnTrieTurned.calls (k : Nat) (A0 : Option Addr) (c0 : Nat) (l0 : List (S42)) (A1 : Option Addr) (c1 : Nat) (l1 : List ByteArray) (r : Bool) (w : World) (hr0 : Kd.C k42 w A0 l0.length l0) (hc0 : l0.length ≤ c0) (hr1 : Kd.C Kd.string w A1 l1.length l1) (hc1 : l1.length ≤ c1) (hl : Pi.Laid w) (h : laws_FnTrieTurned.f k l0 l1 = some r) :
    Calls Tryz.prog 13 #[.slice A0 l0.length c0, .slice A1 l1.length c1] w fun e w' => e = .returned (.bool r) ∧ Below w.heap.size w w' := by
  have hu42 := Tryz.underlying42
  have HR0 := Aside0.mk hr0
  have HC0 := Aside0.mk hc0
  clear hr0 hc0
  have HR1 := Aside0.mk hr1
  have HC1 := Aside0.mk hc1
  clear hr1 hc1
  have HLA := Aside0.mk hl
  clear hl
  have HB := Aside0.mk (Below.refl w.heap.size w)
  have H : ((laws_zzFits3.f k l0).bind fun t488 => (if t488 = true then ((laws_zzFits5.f k l1).bind fun t489 => (laws_FnTrieTurned.j0 k l0 l1 (!t489))) else (laws_FnTrieTurned.j0 k l0 l1 true))) = some r := h
  clear h
  have HC3 := Aside0.mk H
  clear H
  go_enter Tryz.func13, Tryz.ntmps13
  go_upto_region 1 with (fail)
  go_cut [16] (fun v16 wc => ∃ (kq : Nat) (x16_2 : Bool), v16 = .bool x16_2 ∧ Aside0 (laws_FnTrieTurned.j0 kq l0 l1 x16_2 = some r) ∧ Aside0 (kq ≤ k) ∧ Aside0 (Below w.heap.size w wc))
  case first =>
    have H := HC3.out
    clear HC3
    replace H := Option.bind_eq_some_iff.mp H
    obtain ⟨t488, A40, H⟩ := H
    replace H : (if t488 = true then ((laws_zzFits5.f k l1).bind fun t489 => (laws_FnTrieTurned.j0 k l0 l1 (!t489))) else (laws_FnTrieTurned.j0 k l0 l1 true)) = some r := H
    have A4 := Aside0.mk A40
    clear A40
    by_cases c5 : t488 = true
    · subst c5
      have H1 : ((laws_zzFits5.f k l1).bind fun t489 => (laws_FnTrieTurned.j0 k l0 l1 (!t489))) = some r := by rw [if_pos rfl] at H; exact H
      clear H
      have H := H1
      clear H1
      replace H := Option.bind_eq_some_iff.mp H
      obtain ⟨t489, A60, H⟩ := H
      replace H : (laws_FnTrieTurned.j0 k l0 l1 (!t489)) = some r := H
      have A6 := Aside0.mk A60
      clear A60
      have H' := Aside0.mk H
      clear H
      go_wp2_with (first | ((with_reducible refine gate_callee (f := 22) rfl ?_); refine goesL_ (some 10) rfl rfl Tryz.func22 (by kernel_rfl) rfl #[.slice A0 l0.length c0] rfl (by (try simp only [List.map_toArray, List.map_cons, List.map_nil]); first | done | rfl | (simp only [List.length_drop, List.length_take]; rfl)) ?_; (with_reducible refine (laws_zzFits3.calls k _ _ l0 true _ ?side1 ?side2 A4.out).mono ?_); (case side1 => exact XC (Kd.C_below HR0.out HB.out)); (case side2 => exact HC0.out); rintro e w7 ⟨rfl, hb⟩; refine ⟨_, rfl, ?_⟩; have n0_ := Aside0.mk (below_step (Xb HB.out) hb); clear HB; have HB := n0_; clear n0_; (try clear hb); (try clear hb2); (try clear hk); (try clear hi)) | (go_at_call 23; (with_reducible refine (laws_zzFits5.calls k _ _ l1 t489 _ ?side1 ?side2 A6.out).mono ?_); (case side1 => exact XC (Kd.C_below HR1.out HB.out)); (case side2 => exact HC1.out); rintro e w' ⟨rfl, ⟨nd, rfl⟩⟩))
      go_meet
      case rel => exact ⟨_, (!t489), (by first | rfl | (simp; done) | (simp [*]; done)), H', ⟨by first | omega | exact Nat.le_refl _⟩, ⟨by repeat (first | (with_reducible first | exact HB.out | apply below_alloc | apply pw_below_drewN | apply below_drew1) | exact HB.out)⟩⟩
    · replace c5 := Bool.eq_false_iff.mpr c5
      subst c5
      have H1 : (laws_FnTrieTurned.j0 k l0 l1 true) = some r := by rw [if_neg (show ¬ (false = true) by decide)] at H; exact H
      clear H
      have H := H1
      clear H1
      have H' := Aside0.mk H
      clear H
      go_wp2_with (first | ((with_reducible refine gate_callee (f := 22) rfl ?_); refine goesL_ (some 10) rfl rfl Tryz.func22 (by kernel_rfl) rfl #[.slice A0 l0.length c0] rfl (by (try simp only [List.map_toArray, List.map_cons, List.map_nil]); first | done | rfl | (simp only [List.length_drop, List.length_take]; rfl)) ?_; (with_reducible refine (laws_zzFits3.calls k _ _ l0 false _ ?side1 ?side2 A4.out).mono ?_); (case side1 => exact XC (Kd.C_below HR0.out HB.out)); (case side2 => exact HC0.out); rintro e w8 ⟨rfl, hb⟩; refine ⟨_, rfl, ?_⟩; have n0_ := Aside0.mk (below_step (Xb HB.out) hb); clear HB; have HB := n0_; clear n0_; (try clear hb); (try clear hb2); (try clear hk); (try clear hi)))
      go_meet
      case rel => exact ⟨_, (true), (by first | rfl | (simp; done) | (simp [*]; done)), H', ⟨by first | omega | exact Nat.le_refl _⟩, ⟨by repeat (first | (with_reducible first | exact HB.out | apply below_alloc | apply pw_below_drewN | apply below_drew1) | exact HB.out)⟩⟩
  case rest =>
    clear HC3
    try clear c1
    try clear c2
    try clear p2
    try clear c5
    obtain ⟨kq, x16_2, rfl, HA, HJ2, HB⟩ := hcut
    cases kq with
    | zero => exact absurd HA.out (by simp [laws_FnTrieTurned.j0])
    | succ kj2 =>
      have H := HA.out
      clear HA
      simp only [laws_FnTrieTurned.j0] at H
      by_cases c9 : x16_2 = true
      · subst c9
        have H1 : (some true) = some r := by rw [if_pos rfl] at H; exact H
        clear H
        have H := H1
        clear H1
        obtain rfl := Option.some.inj H
        go_wp2
        go_ret
        exact ⟨by first | rfl | (simp [errW_none, errW_some] <;> rfl) | (simp [*, errW_none, errW_some] <;> rfl), by repeat (first | (with_reducible first | exact HB.out | apply below_alloc | apply pw_below_drewN | apply below_drew1) | exact HB.out)⟩
      · replace c9 := Bool.eq_false_iff.mpr c9
        subst c9
        have H1 : ((spec_MatchesOk.f kj2 l0).bind fun t490 => (if t490 = true then ((laws_there.f kj2 l0).bind fun t492 => (laws_FnTrieTurned.l0 kj2 t492 l1 (([] : List (S42))) (t492.length : Int) 0)) else ((laws_triesWork.f kj2).bind fun t491 => (some t491)))) = some r := by rw [if_neg (show ¬ (false = true) by decide)] at H; exact H
        clear H
        have H := H1
        clear H1
        replace H := Option.bind_eq_some_iff.mp H
        obtain ⟨t490, A100, H⟩ := H
        replace H : (if t490 = true then ((laws_there.f kj2 l0).bind fun t492 => (laws_FnTrieTurned.l0 kj2 t492 l1 (([] : List (S42))) (t492.length : Int) 0)) else ((laws_triesWork.f kj2).bind fun t491 => (some t491))) = some r := H
        have A10 := Aside0.mk A100
        clear A100
        by_cases c11 : t490 = true
        · subst c11
          have H1 : ((laws_there.f kj2 l0).bind fun t492 => (laws_FnTrieTurned.l0 kj2 t492 l1 (([] : List (S42))) (t492.length : Int) 0)) = some r := by rw [if_pos rfl] at H; exact H
          clear H
          have H := H1
          clear H1
          replace H := Option.bind_eq_some_iff.mp H
          obtain ⟨t492, A120, H⟩ := H
          replace H : (laws_FnTrieTurned.l0 kj2 t492 l1 (([] : List (S42))) (t492.length : Int) 0) = some r := H
          have A12 := Aside0.mk A120
          clear A120
          obtain ⟨y495, hy495⟩ : ∃ y_ : List (S42), y_ = (([] : List (S42))) := ⟨_, rfl⟩
          replace H : (laws_FnTrieTurned.l0 kj2 t492 l1 y495 (t492.length : Int) 0) = some r := by first | (rw [hy495]; with_reducible exact H) | (have H2_ := (Option.bind_some _ _).symm.trans H; rw [hy495]; with_reducible exact H2_) | (have H2_ := (Option.bind_some _ _).symm.trans H; with_reducible exact H2_) | with_reducible exact H | (rw [hy495]; exact H) | exact H
          have Ny495 := Aside0.mk hy495
          clear hy495
          have H' := Aside0.mk H
          clear H
          go_wp2_with (first | ((with_reducible refine gate_callee (f := 24) rfl ?_); refine goesL_ (some 18) rfl rfl Tryz.func24 (by kernel_rfl) rfl #[.slice A0 l0.length c0] rfl (by (try simp only [List.map_toArray, List.map_cons, List.map_nil]); first | done | rfl | (simp only [List.length_drop, List.length_take]; rfl)) ?_; (with_reducible refine (spec_MatchesOk.calls kj2 _ _ l0 true _ ?side1 ?side2 A10.out).mono ?_); (case side1 => exact XC (Kd.C_below HR0.out HB.out)); (case side2 => exact HC0.out); rintro e w13 ⟨rfl, hb⟩; refine ⟨_, rfl, ?_⟩; have n0_ := Aside0.mk (below_step (Xb HB.out) hb); clear HB; have HB := n0_; clear n0_; (try clear hb); (try clear hb2); (try clear hk); (try clear hi)) | ((with_reducible refine gate_callee (f := 37) rfl ?_); refine goesL_ (some 22) rfl rfl Tryz.func37 (by kernel_rfl) rfl #[.slice A0 l0.length c0] rfl (by (try simp only [List.map_toArray, List.map_cons, List.map_nil]); first | done | rfl | (simp only [List.length_drop, List.length_take]; rfl)) ?_; (with_reducible refine (laws_there.calls kj2 (fun k_ => k_ < w.heap.size) _ _ l0 t492 _ ?side1 A12.out).mono ?_); (case side1 => exact Kd.V_mk HC0.out (Kd.F_below (Kd.C_F k42_heap HR0.out) (Xb HB.out))); rintro e w14 ⟨v493, rfl, ho0, hb⟩; refine ⟨_, rfl, ?_⟩; have n0_ := Aside0.mk (Kd.N_lower (Kd.N_mono (ok' := fun k_ => True) ho0 (fun k_ hk_ => trivial)) (below_size (Xb HB.out))); have n1_ := Aside0.mk (below_step (Xb HB.out) hb); clear HB; have HO494 := n0_; have HB := n1_; clear n0_ n1_; (try clear hb); (try clear hb2); (try clear hk); (try clear hi); (try clear ho0)) | ((with_reducible refine gate_dst (N := 23) rfl ?_); refine Kd.N_lit k42 _ 42 ?hg (N' := 23) ?hd (xs := ([] : List (S42))) (inner := []) (ok := (fun k_ => some k_ ≠ (v493 : Value).ownBlock)) (okp := (fun k_ => some k_ ≠ (v493 : Value).ownBlock)) ?hr ?hp (fun _ hk => hk) ((show ∀ k_, w14.heap.size ≤ k_ → (fun k_ => some k_ ≠ (v493 : Value).ownBlock) k_ from fun k_ hk => Kd.fresh' (Kd.N_lt (XN HO494.out)) k_ hk) _ (Nat.le_refl _)) (Below.refl _ _) (Nat.le_refl _) (by simp) ?_; (case hd => rfl); (case hg => rfl); (case hr => first | (go_simp; done) | (go_simp; rfl)); (case hp => exact (Reps.none _ _)); intro v496 w15 ho16 hb hg_ hnew_; clear hg_ hnew_; (first | rw [← Ny495.out] at ho16 | (simp only [Int.reduceToNat] at ho16; rw [← Ny495.out] at ho16)); have n0_ := Aside0.mk (Kd.N_elder' (XN HO494.out) (Kd.N_base ho16) hb); have n1_ := Aside0.mk (Kd.N_lower ho16 (below_size (Xb HB.out))); have n2_ := Aside0.mk (below_step (Xb HB.out) hb); clear HO494; clear HB; have HO494 := n0_; have HO497 := n1_; have HB := n2_; clear n0_ n1_ n2_; clear hb ho16; obtain ⟨Ao17, co17, eo17⟩ := Kd.N_slice HO494.out; subst eo17))
          go_loopg [5, 26] kj2 (fun kq v5 v26 w' => ∃ (x5_2 : List (S42)) (x26_2 : Int), v26 = .int .i64 x26_2 ∧ Aside0 (laws_FnTrieTurned.l0 kq t492 l1 x5_2 (t492.length : Int) x26_2 = some r) ∧ Aside0 (kq ≤ kj2) ∧ Aside0 (Kd.N k42 42 w' w.heap.size (fun k_ => some k_ ≠ (v5 : Value).ownBlock) (.slice Ao17 t492.length co17) t492) ∧ Aside0 (Kd.N k42 42 w' w.heap.size (fun k_ => some k_ ≠ ((.slice Ao17 t492.length co17) : Value).ownBlock) v5 x5_2) ∧ Aside0 (Below w.heap.size w w'))
          case atStart => exact ⟨(y495), (0), (by first | rfl | (simp; done) | (simp [*]; done)), H', ⟨Nat.le_refl _⟩, ⟨by (with_reducible repeat (first | apply Kd.N_alloc | apply Kd.N_drewN | apply Kd.N_drew)); exact Kd.N_mono HO494.out (fun _ hk => hk.2)⟩, ⟨by (with_reducible repeat (first | apply Kd.N_alloc | apply Kd.N_drewN | apply Kd.N_drew)); exact HO497.out⟩, ⟨by repeat (first | (with_reducible first | exact HB.out | apply below_alloc | apply pw_below_drewN | apply below_drew1) | exact HB.out)⟩⟩
          case round =>
            clear H'
            try clear c1
            try clear c2
            try clear p2
            try clear c3
            try clear c5
            try clear c9
            try clear c11
            try clear c13
            try clear p2
            obtain ⟨x5_2, x26_2, rfl, HA, HK2, HO_0, HO_5, HB⟩ := hrel
            cases gk with
            | zero => exact absurd HA.out (by simp [laws_FnTrieTurned.l0])
            | succ k2 =>
              have H := HA.out
              clear HA
              simp only [laws_FnTrieTurned.l0] at H
              by_cases c18 : x26_2 < (t492.length : Int)
              · rw [if_pos c18] at H
                have c18b0 : decide (x26_2 < (t492.length : Int)) = true := decide_eq_true c18
                clear c18
                obtain ⟨ji19, hji19⟩ : ∃ j_ : Int, (wrap64 ((wrap64 ((t492.length : Int) - 1)) - x26_2)) = j_ := ⟨_, rfl⟩
                replace H : (if 0 ≤ (ji19) then (if (ji19) < (t492.length : Int) then (if x5_2.length < 2513169434916 then (laws_FnTrieTurned.l0 k2 t492 l1 (x5_2 ++ [(⟨(rd_T42 t492 (ji19)).f0, (rd_T42 t492 (ji19)).f1, (rd_T42 t492 (ji19)).f2, (rd_T42 t492 (ji19)).f3⟩ : S42)]) (t492.length : Int) (wrap64 (x26_2 + 1))) else (none)) else (none)) else (none)) = some r := by first | (rw [hji19] at H; exact H) | (simp only [hji19] at H ⊢; exact H)
                have hji19w : (IntKind.i64.wrap ((wrap64 ((t492.length : Int) - 1)) - x26_2)) = ji19 := (i64_w _).trans hji19
                by_cases c20 : 0 ≤ (ji19)
                · rw [if_pos c20] at H
                  have c20b0 : decide (0 ≤ (ji19)) = true := decide_eq_true c20
                  clear c20
                  by_cases c21 : (ji19) < (t492.length : Int)
                  · rw [if_pos c21] at H
                    have c21b0 : decide ((ji19) < (t492.length : Int)) = true := decide_eq_true c21
                    clear c21
                    by_cases c22 : x5_2.length < 2513169434916
                    · rw [if_pos c22] at H
                      have LMc22 := Aside0.mk c22
                      clear c22
                      obtain ⟨y499, hy499⟩ : ∃ y_ : List (S42), y_ = (x5_2 ++ [(⟨(rd_T42 t492 (ji19)).f0, (rd_T42 t492 (ji19)).f1, (rd_T42 t492 (ji19)).f2, (rd_T42 t492 (ji19)).f3⟩ : S42)]) := ⟨_, rfl⟩
                      replace H : (laws_FnTrieTurned.l0 k2 t492 l1 y499 (t492.length : Int) (wrap64 (x26_2 + 1))) = some r := by first | (rw [hy499]; with_reducible exact H) | (have H2_ := (Option.bind_some _ _).symm.trans H; rw [hy499]; with_reducible exact H2_) | (have H2_ := (Option.bind_some _ _).symm.trans H; with_reducible exact H2_) | with_reducible exact H | (rw [hy499]; exact H) | exact H
                      have Ny499 := Aside0.mk hy499
                      clear hy499
                      have H' := Aside0.mk H
                      clear H
                      have p498 : 0 ≤ ((ji19) : Int) := of_decide_eq_true (by first | (with_reducible assumption) | assumption)
                      have q498 : (ji19) < (t492.length : Int) := of_decide_eq_true (by first | (with_reducible assumption) | assumption)
                      obtain ⟨ad498, A498_2, c498_2, e498, hx498_0, hx498_1, hx498_2, hx498_3, hl498_2, hi498_2⟩ := at_T42 (Kd.N_reads' HO_0.out).2.2 (ji19) p498 q498
                      cases e498
                      obtain ⟨ce498, hce498, hMe498, hcc498⟩ := Kd.N_get HO_0.out z42 (ji19) p498 (by first | exact q498 | exact of_decide_eq_true (by first | (with_reducible assumption) | assumption) | (have e_ := (Kd.N_reads' HO_0.out).1; omega))
                      obtain ⟨ua498_2, uc498_2, rfl, ul498_2, ge498_2⟩ := k42_openF hMe498
                      have hv498_2 := hcc498 2 _ rfl
                      rw [add_field _ _ 2 (by omega)] at hv498_2
                      replace hv498_2 := Option.some.inj (hv498_2.symm.trans hx498_2)
                      injection hv498_2 with hva_ hvn_ hvc_
                      rw [hva_] at ge498_2
                      rw [hvc_] at ul498_2
                      have HL498_2 := Aside0.mk (show Kd.V k67 67 _ w.heap.size _ _ ((rd_T42 t492 (ji19)).f2) from Kd.V_mk ul498_2 ge498_2)
                      clear hva_ hvn_ hvc_ ge498_2 ul498_2
                      clear hcc498 hce498
                      have HR498_2 := Aside0.mk hi498_2
                      have HC498_2 := Aside0.mk hl498_2
                      clear hi498_2 hl498_2
                      replace p498 := eq_true p498
                      replace q498 := eq_true q498
                      go_wp2_with (first | ((with_reducible refine gate_builtin (b := .append) (xs := #[.tmp 29, .tmp 38]) rfl ?_); at_builtin; refine Kd.N_append k42 (w0 := w) w.heap.size rfl (.tmp 29) (.tmp 38) 34 42 (.agg #[(.bool false), (.string ⟨#[]⟩), (.slice none 0 0), (.int .i64 0)]) 56 rfl Tryz.underlying34 info42 rfl (by decide) (by omega) u5 x5_2 (⟨(rd_T42 t492 (ji19)).f0, (rd_T42 t492 (ji19)).f1, (rd_T42 t492 (ji19)).f2, (rd_T42 t492 (ji19)).f3⟩ : S42) [.bool ((rd_T42 t492 (ji19)).f0), .string ((rd_T42 t492 (ji19)).f1), .slice A498_2 ((rd_T42 t492 (ji19)).f2).length c498_2, .int .i64 ((rd_T42 t492 (ji19)).f3)] (fun k_ => some k_ ≠ (.slice (some ad498) t492.length co17 : Value).ownBlock) (fun k_ => ((fun k_ => some k_ ≠ (.slice (some ad498) t492.length co17 : Value).ownBlock)) k_ ∧ some k_ ≠ (u5 : Value).ownBlock) rfl rfl ?aP (fun _ hk => hk) ?aF ?aO ?aB ?aS ?aL ?_; (case aP => exact (k42_mkF _ _ (⟨(rd_T42 t492 (ji19)).f0, (rd_T42 t492 (ji19)).f1, (rd_T42 t492 (ji19)).f2, (rd_T42 t492 (ji19)).f3⟩ : S42) (Kd.V_reads' (Kd.V_mono (ok' := (fun k_ => ((fun k_ => some k_ ≠ (.slice (some ad498) t492.length co17 : Value).ownBlock)) k_ ∧ some k_ ≠ (u5 : Value).ownBlock)) (HL498_2.out) (fun k_ hk => ⟨hk.2, hk.1⟩))).2.1 (Kd.V_F (Kd.V_mono (ok' := (fun k_ => ((fun k_ => some k_ ≠ (.slice (some ad498) t492.length co17 : Value).ownBlock)) k_ ∧ some k_ ≠ (u5 : Value).ownBlock)) (HL498_2.out) (fun k_ hk => ⟨hk.2, hk.1⟩))))); (case aB => exact (Xb HB.out)); (case aF => exact (fun k_ hk => Kd.fresh' (Kd.N_lt (XN HO_0.out)) k_ hk)); (case aO => exact (XN HO_5.out)); (case aS => exact (below_size (Xb HB.out))); (case aL => have := LMc22.out; omega); intro v500 w23 ho hb hg hat; rw [← Ny499.out] at ho; have n0_ := Aside0.mk (Kd.N_afterv (ok := (fun _ => True)) (by (with_reducible repeat (first | apply Kd.N_alloc | apply Kd.N_drewN | apply Kd.N_drew)); exact Kd.N_mono HO_0.out (fun _ hk => ⟨trivial, hk⟩)) hg hat); have n1_ := Aside0.mk (Kd.V_afterv (ok := (fun k_ => some k_ ≠ (.slice (some ad498) t492.length co17 : Value).ownBlock)) (by (with_reducible repeat (first | apply Kd.V_alloc | apply Kd.V_drewN | apply Kd.V_drew)); exact Kd.V_mono HL498_2.out (fun _ hk => ⟨hk.2, hk.1⟩)) hg hat); have n2_ := Aside0.mk (hb); have n3_ := Aside0.mk (ho); clear HO_0; clear HL498_2; clear HB; clear HO_5; have HO_0 := n0_; have HL498_2 := n1_; have HB := n2_; have HO501 := n3_; clear n0_ n1_ n2_ n3_; clear ho hb hg hat))
                      go_roundg k2
                      case measure => have := HJ2.out; have := HK2.out; omega
                      case rel => exact ⟨(y499), (wrap64 (x26_2 + 1)), (by first | rfl | (simp; done) | (simp [*]; done)), H', ⟨by have := HJ2.out; have := HK2.out; omega⟩, ⟨by (with_reducible repeat (first | apply Kd.N_alloc | apply Kd.N_drewN | apply Kd.N_drew)); exact Kd.N_mono HO_0.out (fun _ hk => hk.2)⟩, ⟨by (with_reducible repeat (first | apply Kd.N_alloc | apply Kd.N_drewN | apply Kd.N_drew)); exact HO501.out⟩, ⟨by repeat (first | (with_reducible first | exact HB.out | apply below_alloc | apply pw_below_drewN | apply below_drew1) | exact HB.out)⟩⟩
                    · rw [if_neg c22] at H
                      exact absurd H (by simp)
                  · rw [if_neg c21] at H
                    exact absurd H (by simp)
                · rw [if_neg c20] at H
                  exact absurd H (by simp)
              · rw [if_neg c18] at H
                have c18b0 : decide (x26_2 < (t492.length : Int)) = false := decide_eq_false c18
                clear c18
                replace H := Option.bind_eq_some_iff.mp H
                obtain ⟨t502, A240, H⟩ := H
                replace H : ((laws_of.f k2 x5_2 l1).bind fun t505 => (if (t502.length : Int) = (l1.length : Int) then ((laws_sameRows.f k2 t502 t505).bind fun t508 => (if t508 = true then ((laws_triesWork.f k2).bind fun t509 => (some t509)) else (some false))) else (some false))) = some r := H
                have A24 := Aside0.mk A240
                clear A240
                replace H := Option.bind_eq_some_iff.mp H
                obtain ⟨t505, A250, H⟩ := H
                replace H : (if (t502.length : Int) = (l1.length : Int) then ((laws_sameRows.f k2 t502 t505).bind fun t508 => (if t508 = true then ((laws_triesWork.f k2).bind fun t509 => (some t509)) else (some false))) else (some false)) = some r := H
                have A25 := Aside0.mk A250
                clear A250
                by_cases c26 : (t502.length : Int) = (l1.length : Int)
                · rw [if_pos c26] at H
                  have c26b0 : ((t502.length : Int) == (l1.length : Int)) = true := beq_iff_eq.mpr c26
                  have c26b1 : ((t502.length : Int) != (l1.length : Int)) = false := bne_eq_false_iff_eq.mpr c26
                  have c26b2 : (t502.length == l1.length) = true := by first | simpa using c26 | (simp at c26 ⊢; omega)
                  clear c26
                  replace H := Option.bind_eq_some_iff.mp H
                  obtain ⟨t508, A270, H⟩ := H
                  replace H : (if t508 = true then ((laws_triesWork.f k2).bind fun t509 => (some t509)) else (some false)) = some r := H
                  have A27 := Aside0.mk A270
                  clear A270
                  by_cases c28 : t508 = true
                  · subst c28
                    have H1 : ((laws_triesWork.f k2).bind fun t509 => (some t509)) = some r := by rw [if_pos rfl] at H; exact H
                    clear H
                    have H := H1
                    clear H1
                    replace H := Option.bind_eq_some_iff.mp H
                    obtain ⟨t509, A290, H⟩ := H
                    replace H : (some t509) = some r := H
                    have A29 := Aside0.mk A290
                    clear A290
                    obtain rfl := Option.some.inj H
                    go_wp2_with (first | ((with_reducible refine gate_callee (f := 26) rfl ?_); refine goesL_ (some 43) rfl rfl Tryz.func26 (by kernel_rfl) rfl #[.slice Ao17 t492.length co17, .slice A1 l1.length c1] rfl (by (try simp only [List.map_toArray, List.map_cons, List.map_nil]); first | done | rfl | (simp only [List.length_drop, List.length_take]; rfl)) ?_; (with_reducible refine (laws_of.calls k2 _ _ t492 _ _ l1 t502 _ ?side1 ?side2 ?side3 ?side4 ?sidel A24.out).mono ?_); (case sidel => exact Pi.Laid.below HLA.out (Xb HB.out)); (case side1 => exact XC (Kd.N_reads' HO_0.out).2.2); (case side2 => exact (Kd.N_reads' HO_0.out).2.1); (case side3 => exact XC (Kd.C_below HR1.out HB.out)); (case side4 => exact HC1.out); rintro e w30 ⟨v503, rfl, ho0, hb⟩; refine ⟨_, rfl, ?_⟩; have n0_ := Aside0.mk (Kd.N_elder' (XN HO_0.out) (by first | exact Kd.N_base ho0 | exact Kd.N_base (Kd.S_N ho0)) hb); have n1_ := Aside0.mk (Kd.N_elder' (XN HO_5.out) (by first | exact Kd.N_base ho0 | exact Kd.N_base (Kd.S_N ho0)) hb); have n2_ := Aside0.mk (Kd.N_lower (Kd.N_mono (ok' := fun k_ => some k_ ≠ (.slice Ao17 t492.length co17 : Value).ownBlock ∧ some k_ ≠ (u5 : Value).ownBlock) (Kd.S_N (Kd.S_bound ho0)) (fun k_ hk_ => ⟨(Kd.fresh' (Kd.N_lt (XN HO_0.out)) k_ hk_.2.1), (Kd.fresh' (Kd.N_lt (XN HO_5.out)) k_ hk_.2.1)⟩)) (below_size (Xb HB.out))); have n3_ := Aside0.mk (below_step (Xb HB.out) hb); clear HO_0; clear HO_5; clear HB; have HO_0 := n0_; have HO_5 := n1_; have HO504 := n2_; have HB := n3_; clear n0_ n1_ n2_ n3_; (try clear hb); (try clear hb2); (try clear hk); (try clear hi); (try clear ho0); obtain ⟨Ao31, co31, eo31⟩ := Kd.N_slice HO_5.out; subst eo31) | ((with_reducible refine gate_callee (f := 26) rfl ?_); refine goesL_ (some 46) rfl rfl Tryz.func26 (by kernel_rfl) rfl #[.slice Ao31 x5_2.length co31, .slice A1 l1.length c1] rfl (by (try simp only [List.map_toArray, List.map_cons, List.map_nil]); first | done | rfl | (simp only [List.length_drop, List.length_take]; rfl)) ?_; (with_reducible refine (laws_of.calls k2 _ _ x5_2 _ _ l1 t505 _ ?side1 ?side2 ?side3 ?side4 ?sidel A25.out).mono ?_); (case sidel => exact Pi.Laid.below HLA.out (Xb HB.out)); (case side1 => exact XC (Kd.N_reads' HO_5.out).2.2); (case side2 => exact (Kd.N_reads' HO_5.out).2.1); (case side3 => exact XC (Kd.C_below HR1.out HB.out)); (case side4 => exact HC1.out); rintro e w32 ⟨v506, rfl, ho0, hb⟩; refine ⟨_, rfl, ?_⟩; have n0_ := Aside0.mk (Kd.N_elder' (XN HO_0.out) (by first | exact Kd.N_base ho0 | exact Kd.N_base (Kd.S_N ho0)) hb); have n1_ := Aside0.mk (Kd.N_elder' (XN HO_5.out) (by first | exact Kd.N_base ho0 | exact Kd.N_base (Kd.S_N ho0)) hb); have n2_ := Aside0.mk (Kd.N_elder' (XN HO504.out) (by first | exact Kd.N_base ho0 | exact Kd.N_base (Kd.S_N ho0)) hb); have n3_ := Aside0.mk (Kd.N_lower (Kd.N_mono (ok' := fun k_ => some k_ ≠ (.slice Ao17 t492.length co17 : Value).ownBlock ∧ some k_ ≠ (.slice Ao31 x5_2.length co31 : Value).ownBlock ∧ some k_ ≠ (v503 : Value).ownBlock) (Kd.S_N (Kd.S_bound ho0)) (fun k_ hk_ => ⟨(Kd.fresh' (Kd.N_lt (XN HO_0.out)) k_ hk_.2.1), (Kd.fresh' (Kd.N_lt (XN HO_5.out)) k_ hk_.2.1), (Kd.fresh' (Kd.N_lt (XN HO504.out)) k_ hk_.2.1)⟩)) (below_size (Xb HB.out))); have n4_ := Aside0.mk (below_step (Xb HB.out) hb); clear HO_0; clear HO_5; clear HO504; clear HB; have HO_0 := n0_; have HO_5 := n1_; have HO504 := n2_; have HO507 := n3_; have HB := n4_; clear n0_ n1_ n2_ n3_ n4_; (try clear hb); (try clear hb2); (try clear hk); (try clear hi); (try clear ho0); obtain ⟨Ao33, co33, eo33⟩ := Kd.N_slice HO504.out; subst eo33; obtain ⟨Ao34, co34, eo34⟩ := Kd.N_slice HO507.out; subst eo34) | (go_at_call 31; (with_reducible refine (laws_sameRows.calls k2 _ _ t502 _ _ t505 true _ ?side1 ?side2 ?side3 ?side4 A27.out).mono ?_); (case side1 => exact XC (Kd.N_reads' HO504.out).2.2); (case side2 => exact (Kd.N_reads' HO504.out).2.1); (case side3 => exact XC (Kd.N_reads' HO507.out).2.2); (case side4 => exact (Kd.N_reads' HO507.out).2.1); rintro e w' ⟨rfl, ⟨nd, rfl⟩⟩) | (go_at_call 16; (with_reducible refine (laws_triesWork.calls k2  t509 _ ?sidel A29.out).mono ?_); (case sidel => exact Pi.Laid.below HLA.out (Xb HB.out)); rintro e w35 ⟨rfl, hb⟩; have n0_ := Aside0.mk (Kd.N_below (XN HO_0.out) hb); have n1_ := Aside0.mk (Kd.N_below (XN HO_5.out) hb); have n2_ := Aside0.mk (Kd.N_below (XN HO504.out) hb); have n3_ := Aside0.mk (Kd.N_below (XN HO507.out) hb); have n4_ := Aside0.mk (below_step (Xb HB.out) hb); clear HO_0; clear HO_5; clear HO504; clear HO507; clear HB; have HO_0 := n0_; have HO_5 := n1_; have HO504 := n2_; have HO507 := n3_; have HB := n4_; clear n0_ n1_ n2_ n3_ n4_; (try clear hb); (try clear hb2); (try clear hk); (try clear hi)))
                    go_ret
                    exact ⟨by first | rfl | (simp [errW_none, errW_some] <;> rfl) | (simp [*, errW_none, errW_some] <;> rfl), by repeat (first | (with_reducible first | exact HB.out | apply below_alloc | apply pw_below_drewN | apply below_drew1) | exact HB.out)⟩
                  · replace c28 := Bool.eq_false_iff.mpr c28
                    subst c28
                    have H1 : (some false) = some r := by rw [if_neg (show ¬ (false = true) by decide)] at H; exact H
                    clear H
                    have H := H1
                    clear H1
                    obtain rfl := Option.some.inj H
                    go_wp2_with (first | ((with_reducible refine gate_callee (f := 26) rfl ?_); refine goesL_ (some 43) rfl rfl Tryz.func26 (by kernel_rfl) rfl #[.slice Ao17 t492.length co17, .slice A1 l1.length c1] rfl (by (try simp only [List.map_toArray, List.map_cons, List.map_nil]); first | done | rfl | (simp only [List.length_drop, List.length_take]; rfl)) ?_; (with_reducible refine (laws_of.calls k2 _ _ t492 _ _ l1 t502 _ ?side1 ?side2 ?side3 ?side4 ?sidel A24.out).mono ?_); (case sidel => exact Pi.Laid.below HLA.out (Xb HB.out)); (case side1 => exact XC (Kd.N_reads' HO_0.out).2.2); (case side2 => exact (Kd.N_reads' HO_0.out).2.1); (case side3 => exact XC (Kd.C_below HR1.out HB.out)); (case side4 => exact HC1.out); rintro e w36 ⟨v503, rfl, ho0, hb⟩; refine ⟨_, rfl, ?_⟩; have n0_ := Aside0.mk (Kd.N_elder' (XN HO_0.out) (by first | exact Kd.N_base ho0 | exact Kd.N_base (Kd.S_N ho0)) hb); have n1_ := Aside0.mk (Kd.N_elder' (XN HO_5.out) (by first | exact Kd.N_base ho0 | exact Kd.N_base (Kd.S_N ho0)) hb); have n2_ := Aside0.mk (Kd.N_lower (Kd.N_mono (ok' := fun k_ => some k_ ≠ (.slice Ao17 t492.length co17 : Value).ownBlock ∧ some k_ ≠ (u5 : Value).ownBlock) (Kd.S_N (Kd.S_bound ho0)) (fun k_ hk_ => ⟨(Kd.fresh' (Kd.N_lt (XN HO_0.out)) k_ hk_.2.1), (Kd.fresh' (Kd.N_lt (XN HO_5.out)) k_ hk_.2.1)⟩)) (below_size (Xb HB.out))); have n3_ := Aside0.mk (below_step (Xb HB.out) hb); clear HO_0; clear HO_5; clear HB; have HO_0 := n0_; have HO_5 := n1_; have HO504 := n2_; have HB := n3_; clear n0_ n1_ n2_ n3_; (try clear hb); (try clear hb2); (try clear hk); (try clear hi); (try clear ho0); obtain ⟨Ao37, co37, eo37⟩ := Kd.N_slice HO_5.out; subst eo37) | ((with_reducible refine gate_callee (f := 26) rfl ?_); refine goesL_ (some 46) rfl rfl Tryz.func26 (by kernel_rfl) rfl #[.slice Ao37 x5_2.length co37, .slice A1 l1.length c1] rfl (by (try simp only [List.map_toArray, List.map_cons, List.map_nil]); first | done | rfl | (simp only [List.length_drop, List.length_take]; rfl)) ?_; (with_reducible refine (laws_of.calls k2 _ _ x5_2 _ _ l1 t505 _ ?side1 ?side2 ?side3 ?side4 ?sidel A25.out).mono ?_); (case sidel => exact Pi.Laid.below HLA.out (Xb HB.out)); (case side1 => exact XC (Kd.N_reads' HO_5.out).2.2); (case side2 => exact (Kd.N_reads' HO_5.out).2.1); (case side3 => exact XC (Kd.C_below HR1.out HB.out)); (case side4 => exact HC1.out); rintro e w38 ⟨v506, rfl, ho0, hb⟩; refine ⟨_, rfl, ?_⟩; have n0_ := Aside0.mk (Kd.N_elder' (XN HO_0.out) (by first | exact Kd.N_base ho0 | exact Kd.N_base (Kd.S_N ho0)) hb); have n1_ := Aside0.mk (Kd.N_elder' (XN HO_5.out) (by first | exact Kd.N_base ho0 | exact Kd.N_base (Kd.S_N ho0)) hb); have n2_ := Aside0.mk (Kd.N_elder' (XN HO504.out) (by first | exact Kd.N_base ho0 | exact Kd.N_base (Kd.S_N ho0)) hb); have n3_ := Aside0.mk (Kd.N_lower (Kd.N_mono (ok' := fun k_ => some k_ ≠ (.slice Ao17 t492.length co17 : Value).ownBlock ∧ some k_ ≠ (.slice Ao37 x5_2.length co37 : Value).ownBlock ∧ some k_ ≠ (v503 : Value).ownBlock) (Kd.S_N (Kd.S_bound ho0)) (fun k_ hk_ => ⟨(Kd.fresh' (Kd.N_lt (XN HO_0.out)) k_ hk_.2.1), (Kd.fresh' (Kd.N_lt (XN HO_5.out)) k_ hk_.2.1), (Kd.fresh' (Kd.N_lt (XN HO504.out)) k_ hk_.2.1)⟩)) (below_size (Xb HB.out))); have n4_ := Aside0.mk (below_step (Xb HB.out) hb); clear HO_0; clear HO_5; clear HO504; clear HB; have HO_0 := n0_; have HO_5 := n1_; have HO504 := n2_; have HO507 := n3_; have HB := n4_; clear n0_ n1_ n2_ n3_ n4_; (try clear hb); (try clear hb2); (try clear hk); (try clear hi); (try clear ho0); obtain ⟨Ao39, co39, eo39⟩ := Kd.N_slice HO504.out; subst eo39; obtain ⟨Ao40, co40, eo40⟩ := Kd.N_slice HO507.out; subst eo40) | (go_at_call 31; (with_reducible refine (laws_sameRows.calls k2 _ _ t502 _ _ t505 false _ ?side1 ?side2 ?side3 ?side4 A27.out).mono ?_); (case side1 => exact XC (Kd.N_reads' HO504.out).2.2); (case side2 => exact (Kd.N_reads' HO504.out).2.1); (case side3 => exact XC (Kd.N_reads' HO507.out).2.2); (case side4 => exact (Kd.N_reads' HO507.out).2.1); rintro e w' ⟨rfl, ⟨nd, rfl⟩⟩))
                    go_ret
                    exact ⟨by first | rfl | (simp [errW_none, errW_some] <;> rfl) | (simp [*, errW_none, errW_some] <;> rfl), by repeat (first | (with_reducible first | exact HB.out | apply below_alloc | apply pw_below_drewN | apply below_drew1) | exact HB.out)⟩
                · rw [if_neg c26] at H
                  have c26b0 : ((t502.length : Int) == (l1.length : Int)) = false := beq_eq_false_iff_ne.mpr c26
                  have c26b1 : ((t502.length : Int) != (l1.length : Int)) = true := bne_iff_ne.mpr c26
                  have c26b2 : (t502.length == l1.length) = false := by first | simpa using c26 | (simp at c26 ⊢; omega)
                  obtain rfl := Option.some.inj H
                  go_wp2_with (first | ((with_reducible refine gate_callee (f := 26) rfl ?_); refine goesL_ (some 43) rfl rfl Tryz.func26 (by kernel_rfl) rfl #[.slice Ao17 t492.length co17, .slice A1 l1.length c1] rfl (by (try simp only [List.map_toArray, List.map_cons, List.map_nil]); first | done | rfl | (simp only [List.length_drop, List.length_take]; rfl)) ?_; (with_reducible refine (laws_of.calls k2 _ _ t492 _ _ l1 t502 _ ?side1 ?side2 ?side3 ?side4 ?sidel A24.out).mono ?_); (case sidel => exact Pi.Laid.below HLA.out (Xb HB.out)); (case side1 => exact XC (Kd.N_reads' HO_0.out).2.2); (case side2 => exact (Kd.N_reads' HO_0.out).2.1); (case side3 => exact XC (Kd.C_below HR1.out HB.out)); (case side4 => exact HC1.out); rintro e w41 ⟨v503, rfl, ho0, hb⟩; refine ⟨_, rfl, ?_⟩; have n0_ := Aside0.mk (Kd.N_elder' (XN HO_0.out) (by first | exact Kd.N_base ho0 | exact Kd.N_base (Kd.S_N ho0)) hb); have n1_ := Aside0.mk (Kd.N_elder' (XN HO_5.out) (by first | exact Kd.N_base ho0 | exact Kd.N_base (Kd.S_N ho0)) hb); have n2_ := Aside0.mk (Kd.N_lower (Kd.N_mono (ok' := fun k_ => some k_ ≠ (.slice Ao17 t492.length co17 : Value).ownBlock ∧ some k_ ≠ (u5 : Value).ownBlock) (Kd.S_N (Kd.S_bound ho0)) (fun k_ hk_ => ⟨(Kd.fresh' (Kd.N_lt (XN HO_0.out)) k_ hk_.2.1), (Kd.fresh' (Kd.N_lt (XN HO_5.out)) k_ hk_.2.1)⟩)) (below_size (Xb HB.out))); have n3_ := Aside0.mk (below_step (Xb HB.out) hb); clear HO_0; clear HO_5; clear HB; have HO_0 := n0_; have HO_5 := n1_; have HO504 := n2_; have HB := n3_; clear n0_ n1_ n2_ n3_; (try clear hb); (try clear hb2); (try clear hk); (try clear hi); (try clear ho0); obtain ⟨Ao42, co42, eo42⟩ := Kd.N_slice HO_5.out; subst eo42) | ((with_reducible refine gate_callee (f := 26) rfl ?_); refine goesL_ (some 46) rfl rfl Tryz.func26 (by kernel_rfl) rfl #[.slice Ao42 x5_2.length co42, .slice A1 l1.length c1] rfl (by (try simp only [List.map_toArray, List.map_cons, List.map_nil]); first | done | rfl | (simp only [List.length_drop, List.length_take]; rfl)) ?_; (with_reducible refine (laws_of.calls k2 _ _ x5_2 _ _ l1 t505 _ ?side1 ?side2 ?side3 ?side4 ?sidel A25.out).mono ?_); (case sidel => exact Pi.Laid.below HLA.out (Xb HB.out)); (case side1 => exact XC (Kd.N_reads' HO_5.out).2.2); (case side2 => exact (Kd.N_reads' HO_5.out).2.1); (case side3 => exact XC (Kd.C_below HR1.out HB.out)); (case side4 => exact HC1.out); rintro e w43 ⟨v506, rfl, ho0, hb⟩; refine ⟨_, rfl, ?_⟩; have n0_ := Aside0.mk (Kd.N_elder' (XN HO_0.out) (by first | exact Kd.N_base ho0 | exact Kd.N_base (Kd.S_N ho0)) hb); have n1_ := Aside0.mk (Kd.N_elder' (XN HO_5.out) (by first | exact Kd.N_base ho0 | exact Kd.N_base (Kd.S_N ho0)) hb); have n2_ := Aside0.mk (Kd.N_elder' (XN HO504.out) (by first | exact Kd.N_base ho0 | exact Kd.N_base (Kd.S_N ho0)) hb); have n3_ := Aside0.mk (Kd.N_lower (Kd.N_mono (ok' := fun k_ => some k_ ≠ (.slice Ao17 t492.length co17 : Value).ownBlock ∧ some k_ ≠ (.slice Ao42 x5_2.length co42 : Value).ownBlock ∧ some k_ ≠ (v503 : Value).ownBlock) (Kd.S_N (Kd.S_bound ho0)) (fun k_ hk_ => ⟨(Kd.fresh' (Kd.N_lt (XN HO_0.out)) k_ hk_.2.1), (Kd.fresh' (Kd.N_lt (XN HO_5.out)) k_ hk_.2.1), (Kd.fresh' (Kd.N_lt (XN HO504.out)) k_ hk_.2.1)⟩)) (below_size (Xb HB.out))); have n4_ := Aside0.mk (below_step (Xb HB.out) hb); clear HO_0; clear HO_5; clear HO504; clear HB; have HO_0 := n0_; have HO_5 := n1_; have HO504 := n2_; have HO507 := n3_; have HB := n4_; clear n0_ n1_ n2_ n3_ n4_; (try clear hb); (try clear hb2); (try clear hk); (try clear hi); (try clear ho0); obtain ⟨Ao44, co44, eo44⟩ := Kd.N_slice HO504.out; subst eo44))
                  go_ret
                  exact ⟨by first | rfl | (simp [errW_none, errW_some] <;> rfl) | (simp [*, errW_none, errW_some] <;> rfl), by repeat (first | (with_reducible first | exact HB.out | apply below_alloc | apply pw_below_drewN | apply below_drew1) | exact HB.out)⟩
        · replace c11 := Bool.eq_false_iff.mpr c11
          subst c11
          have H1 : ((laws_triesWork.f kj2).bind fun t491 => (some t491)) = some r := by rw [if_neg (show ¬ (false = true) by decide)] at H; exact H
          clear H
          have H := H1
          clear H1
          replace H := Option.bind_eq_some_iff.mp H
          obtain ⟨t491, A450, H⟩ := H
          replace H : (some t491) = some r := H
          have A45 := Aside0.mk A450
          clear A450
          obtain rfl := Option.some.inj H
          go_wp2_with (first | ((with_reducible refine gate_callee (f := 24) rfl ?_); refine goesL_ (some 18) rfl rfl Tryz.func24 (by kernel_rfl) rfl #[.slice A0 l0.length c0] rfl (by (try simp only [List.map_toArray, List.map_cons, List.map_nil]); first | done | rfl | (simp only [List.length_drop, List.length_take]; rfl)) ?_; (with_reducible refine (spec_MatchesOk.calls kj2 _ _ l0 false _ ?side1 ?side2 A10.out).mono ?_); (case side1 => exact XC (Kd.C_below HR0.out HB.out)); (case side2 => exact HC0.out); rintro e w46 ⟨rfl, hb⟩; refine ⟨_, rfl, ?_⟩; have n0_ := Aside0.mk (below_step (Xb HB.out) hb); clear HB; have HB := n0_; clear n0_; (try clear hb); (try clear hb2); (try clear hk); (try clear hi)) | ((with_reducible refine gate_callee (f := 16) rfl ?_); refine goesL_ (some 20) rfl rfl Tryz.func16 (by kernel_rfl) rfl #[] rfl (by (try simp only [List.map_toArray, List.map_cons, List.map_nil]); first | done | rfl | (simp only [List.length_drop, List.length_take]; rfl)) ?_; (with_reducible refine (laws_triesWork.calls kj2  t491 _ ?sidel A45.out).mono ?_); (case sidel => exact Pi.Laid.below HLA.out (Xb HB.out)); rintro e w47 ⟨rfl, hb⟩; refine ⟨_, rfl, ?_⟩; have n0_ := Aside0.mk (below_step (Xb HB.out) hb); clear HB; have HB := n0_; clear n0_; (try clear hb); (try clear hb2); (try clear hk); (try clear hi)))
          go_ret
          exact ⟨by first | rfl | (simp [errW_none, errW_some] <;> rfl) | (simp [*, errW_none, errW_some] <;> rfl), by repeat (first | (with_reducible first | exact HB.out | apply below_alloc | apply pw_below_drewN | apply below_drew1) | exact HB.out)⟩
end Go.Proofs.YtnoolgbbpekomaaGreatDoor.T
