-- made by stubprint.py
import Derived.Test.YtimakagmhikhfaaMx0
import Derived.Test.YtimakagmhikhfaaMx1
import Derived.Test.YtimakagmhikhfaaMx3
namespace Go.Proofs.Ytimakagmhikhfaa.M
open Go.RowKit Go.Proofs.YtimakagmhikhfaaW.PrintWords Go.Proofs.YtimakagmhikhfaaW.PrintLast Go.Proofs.YtimakagmhikhfaaW.PrintMore
attribute [local go_sem] max2_int min2_int max_two min_two max_three min_three max_four min_four   -- for this text's walks alone
set_option linter.unusedVariables false
set_option linter.unusedSimpArgs false

/-! ### laws_FnMarkTwice: function 9 -/
mutual
def laws_FnMarkTwice.j0 : Nat → Int → Int → Bool → Option (Bool)
  | 0, _, _, _ => none
  | k + 1, x0, x1, x17 => if x17 = true then ((laws_marksWork.f).bind fun t351 => (some t351)) else (laws_FnMarkTwice.l0 k x0 x1 (([] : List (S31))) 0)
def laws_FnMarkTwice.l0 : Nat → Int → Int → List (S31) → Int → Option (Bool)
  | 0, _, _, _, _ => none
  | k + 1, x0, x1, x5, x6 => if x6 < x1 then (if x5.length < 3518437208883 then (laws_FnMarkTwice.l0 k x0 x1 (x5 ++ [(⟨0, x0, ([] : List Int)⟩ : S31)]) (wrap64 (x6 + 1))) else (none)) else (laws_FnMarkTwice.l1 k x0 x1 x5 0)
def laws_FnMarkTwice.l1 : Nat → Int → Int → List (S31) → Int → Option (Bool)
  | 0, _, _, _, _ => none
  | k + 1, x0, x1, x5, x7 => if x7 < x1 then (if x5.length < 3518437208883 then (laws_FnMarkTwice.l1 k x0 x1 (x5 ++ [(⟨2, x0, ([] : List Int)⟩ : S31)]) (wrap64 (x7 + 1))) else (none)) else ((impl_RunMarks.f x5).bind fun t361 => (if (t361.length : Int) = (wrap64 (2 * x1)) then (laws_FnMarkTwice.l2 k x0 x1 t361 (t361.length : Int) 0) else (some false)))
def laws_FnMarkTwice.l2 : Nat → Int → Int → List (S34) → Int → Int → Option (Bool)
  | 0, _, _, _, _, _ => none
  | k + 1, x0, x1, x8, x48, x49 => if x49 < x48 then (if 0 ≤ x49 then (if x49 < (x8.length : Int) then (if ((rd_T34 x8 x49).f0) = 0 then (laws_FnMarkTwice.l2 k x0 x1 x8 x48 (wrap64 (x49 + 1))) else (if x49 < (wrap64 ((wrap64 (2 * x1)) - 1)) then (some false) else (laws_FnMarkTwice.l2 k x0 x1 x8 x48 (wrap64 (x49 + 1))))) else (none)) else (none)) else (if 0 ≤ (wrap64 ((wrap64 (2 * x1)) - 1)) then (if (wrap64 ((wrap64 (2 * x1)) - 1)) < (x8.length : Int) then (if ((rd_T34 x8 (wrap64 ((wrap64 (2 * x1)) - 1))).f0) = x0 then (if ((rd_T34 x8 (wrap64 ((wrap64 (2 * x1)) - 1))).f2) = 0 then ((laws_marksWork.f).bind fun t367 => (some t367)) else (some false)) else (some false)) else (none)) else (none))
end
def laws_FnMarkTwice.f (k : Nat) (a0 : Int) (a1 : Int) : Option (Bool) := (spec_Within.f a0 1 1099511627776).bind fun t349 => (if t349 = true then ((spec_Within.f a1 1 1000).bind fun t350 => (laws_FnMarkTwice.j0 k a0 a1 (!t350))) else (laws_FnMarkTwice.j0 k a0 a1 true))
theorem laws_FnMarkTwice.mono_l : ∀ k, (∀ y0 y1 y2, LeO (laws_FnMarkTwice.j0 k y0 y1 y2) (laws_FnMarkTwice.j0 (k + 1) y0 y1 y2)) ∧ (∀ y0 y1 y2 y3, LeO (laws_FnMarkTwice.l0 k y0 y1 y2 y3) (laws_FnMarkTwice.l0 (k + 1) y0 y1 y2 y3)) ∧ (∀ y0 y1 y2 y3, LeO (laws_FnMarkTwice.l1 k y0 y1 y2 y3) (laws_FnMarkTwice.l1 (k + 1) y0 y1 y2 y3)) ∧ (∀ y0 y1 y2 y3 y4, LeO (laws_FnMarkTwice.l2 k y0 y1 y2 y3 y4) (laws_FnMarkTwice.l2 (k + 1) y0 y1 y2 y3 y4))
  | 0 => ⟨fun _ _ _ r h => by simp [laws_FnMarkTwice.j0] at h, fun _ _ _ _ r h => by simp [laws_FnMarkTwice.l0] at h, fun _ _ _ _ r h => by simp [laws_FnMarkTwice.l1] at h, fun _ _ _ _ _ r h => by simp [laws_FnMarkTwice.l2] at h⟩
  | k + 1 => by
    obtain ⟨ih0, ih1, ih2, ih3⟩ := laws_FnMarkTwice.mono_l k
    refine ⟨?_, ?_, ?_, ?_⟩
    · intro y0 y1 y2
      unfold laws_FnMarkTwice.j0
      repeat' first
      | (with_reducible exact ih0 _ _ _)
      | (with_reducible exact ih1 _ _ _ _)
      | (with_reducible exact ih2 _ _ _ _)
      | (with_reducible exact ih3 _ _ _ _ _)
      | (with_reducible exact LeO.refl _)
      | (with_reducible exact LeO.none _)
      | (with_reducible refine LeO.ite ?_ ?_)
      | (with_reducible refine LeO.bind ?_ (fun _ => ?_))
      | exact ih0 _ _ _
      | exact ih1 _ _ _ _
      | exact ih2 _ _ _ _
      | exact ih3 _ _ _ _ _
      | exact LeO.none _
      | refine LeO.ite ?_ ?_
      | refine LeO.bind ?_ (fun _ => ?_)
    · intro y0 y1 y2 y3
      unfold laws_FnMarkTwice.l0
      repeat' first
      | (with_reducible exact ih0 _ _ _)
      | (with_reducible exact ih1 _ _ _ _)
      | (with_reducible exact ih2 _ _ _ _)
      | (with_reducible exact ih3 _ _ _ _ _)
      | (with_reducible exact LeO.refl _)
      | (with_reducible exact LeO.none _)
      | (with_reducible refine LeO.ite ?_ ?_)
      | (with_reducible refine LeO.bind ?_ (fun _ => ?_))
      | exact ih0 _ _ _
      | exact ih1 _ _ _ _
      | exact ih2 _ _ _ _
      | exact ih3 _ _ _ _ _
      | exact LeO.none _
      | refine LeO.ite ?_ ?_
      | refine LeO.bind ?_ (fun _ => ?_)
    · intro y0 y1 y2 y3
      unfold laws_FnMarkTwice.l1
      repeat' first
      | (with_reducible exact ih0 _ _ _)
      | (with_reducible exact ih1 _ _ _ _)
      | (with_reducible exact ih2 _ _ _ _)
      | (with_reducible exact ih3 _ _ _ _ _)
      | (with_reducible exact LeO.refl _)
      | (with_reducible exact LeO.none _)
      | (with_reducible refine LeO.ite ?_ ?_)
      | (with_reducible refine LeO.bind ?_ (fun _ => ?_))
      | exact ih0 _ _ _
      | exact ih1 _ _ _ _
      | exact ih2 _ _ _ _
      | exact ih3 _ _ _ _ _
      | exact LeO.none _
      | refine LeO.ite ?_ ?_
      | refine LeO.bind ?_ (fun _ => ?_)
    · intro y0 y1 y2 y3 y4
      unfold laws_FnMarkTwice.l2
      repeat' first
      | (with_reducible exact ih0 _ _ _)
      | (with_reducible exact ih1 _ _ _ _)
      | (with_reducible exact ih2 _ _ _ _)
      | (with_reducible exact ih3 _ _ _ _ _)
      | (with_reducible exact LeO.refl _)
      | (with_reducible exact LeO.none _)
      | (with_reducible refine LeO.ite ?_ ?_)
      | (with_reducible refine LeO.bind ?_ (fun _ => ?_))
      | exact ih0 _ _ _
      | exact ih1 _ _ _ _
      | exact ih2 _ _ _ _
      | exact ih3 _ _ _ _ _
      | exact LeO.none _
      | refine LeO.ite ?_ ?_
      | refine LeO.bind ?_ (fun _ => ?_)
theorem laws_FnMarkTwice.mono : ∀ a0 a1 k, LeO (laws_FnMarkTwice.f k a0 a1) (laws_FnMarkTwice.f (k + 1) a0 a1) := by
  intro a0 a1 k
  obtain ⟨ih0, ih1, ih2, ih3⟩ := laws_FnMarkTwice.mono_l k
  unfold laws_FnMarkTwice.f
  repeat' first
      | (with_reducible exact ih0 _ _ _)
      | (with_reducible exact ih1 _ _ _ _)
      | (with_reducible exact ih2 _ _ _ _)
      | (with_reducible exact ih3 _ _ _ _ _)
      | (with_reducible exact LeO.refl _)
      | (with_reducible exact LeO.none _)
      | (with_reducible refine LeO.ite ?_ ?_)
      | (with_reducible refine LeO.bind ?_ (fun _ => ?_))
      | exact ih0 _ _ _
      | exact ih1 _ _ _ _
      | exact ih2 _ _ _ _
      | exact ih3 _ _ _ _ _
      | exact LeO.none _
      | refine LeO.ite ?_ ?_
      | refine LeO.bind ?_ (fun _ => ?_)
set_option maxHeartbeats 8000000 in
set_option maxRecDepth 100000 in
theorem laws_FnMarkTwice.calls (k : Nat) (a0 : Int) (a1 : Int) (r : Bool) (w : World) (h : laws_FnMarkTwice.f k a0 a1 = some r) :
    Calls Try.prog 9 #[.int .i64 a0, .int .i64 a1] w fun e w' => e = .returned (.bool r) ∧ Below w.heap.size w w' := by
  have hu31 := Try.underlying31
  have HB := Aside0.mk (Below.refl w.heap.size w)
  have H : ((spec_Within.f a0 1 1099511627776).bind fun t349 => (if t349 = true then ((spec_Within.f a1 1 1000).bind fun t350 => (laws_FnMarkTwice.j0 k a0 a1 (!t350))) else (laws_FnMarkTwice.j0 k a0 a1 true))) = some r := h
  clear h
  have HC3 := Aside0.mk H
  clear H
  go_enter Try.func9, Try.ntmps9
  go_upto_region 1 with (fail)
  go_cut [17] (fun v17 wc => ∃ (kq : Nat) (x17_2 : Bool), v17 = .bool x17_2 ∧ Aside0 (laws_FnMarkTwice.j0 kq a0 a1 x17_2 = some r) ∧ Aside0 (kq ≤ k) ∧ Aside0 (Below w.heap.size w wc))
  case first =>
    have H := HC3.out
    clear HC3
    replace H := Option.bind_eq_some_iff.mp H
    obtain ⟨t349, A40, H⟩ := H
    replace H : (if t349 = true then ((spec_Within.f a1 1 1000).bind fun t350 => (laws_FnMarkTwice.j0 k a0 a1 (!t350))) else (laws_FnMarkTwice.j0 k a0 a1 true)) = some r := H
    have A4 := Aside0.mk A40
    clear A40
    by_cases c5 : t349 = true
    · subst c5
      have H1 : ((spec_Within.f a1 1 1000).bind fun t350 => (laws_FnMarkTwice.j0 k a0 a1 (!t350))) = some r := by rw [if_pos rfl] at H; exact H
      clear H
      have H := H1
      clear H1
      replace H := Option.bind_eq_some_iff.mp H
      obtain ⟨t350, A60, H⟩ := H
      replace H : (laws_FnMarkTwice.j0 k a0 a1 (!t350)) = some r := H
      have A6 := Aside0.mk A60
      clear A60
      have H' := Aside0.mk H
      clear H
      go_wp2_with (first | ((with_reducible refine gate_callee (f := 20) rfl ?_); refine goesL_ (some 11) rfl rfl Try.func20 (by kernel_rfl) rfl #[.int .i64 a0, .int .i64 1, .int .i64 1099511627776] rfl (by (try simp only [List.map_toArray, List.map_cons, List.map_nil]); first | done | rfl | (simp only [List.length_drop, List.length_take]; rfl)) ?_; (with_reducible refine (spec_Within.calls a0 1 1099511627776 true _ A4.out).mono ?_); rintro e w' ⟨rfl, ⟨nd, rfl⟩⟩; refine ⟨_, rfl, ?_⟩) | (go_at_call 20; (with_reducible refine (spec_Within.calls a1 1 1000 t350 _ A6.out).mono ?_); rintro e w' ⟨rfl, ⟨nd, rfl⟩⟩))
      go_meet
      case rel => exact ⟨_, (!t350), (by first | rfl | (simp; done) | (simp [*]; done)), H', ⟨by first | omega | exact Nat.le_refl _⟩, ⟨by repeat (first | (with_reducible first | exact HB.out | apply below_alloc | apply pw_below_drewN | apply below_drew1) | exact HB.out)⟩⟩
    · replace c5 := Bool.eq_false_iff.mpr c5
      subst c5
      have H1 : (laws_FnMarkTwice.j0 k a0 a1 true) = some r := by rw [if_neg (show ¬ (false = true) by decide)] at H; exact H
      clear H
      have H := H1
      clear H1
      have H' := Aside0.mk H
      clear H
      go_wp2_with (first | ((with_reducible refine gate_callee (f := 20) rfl ?_); refine goesL_ (some 11) rfl rfl Try.func20 (by kernel_rfl) rfl #[.int .i64 a0, .int .i64 1, .int .i64 1099511627776] rfl (by (try simp only [List.map_toArray, List.map_cons, List.map_nil]); first | done | rfl | (simp only [List.length_drop, List.length_take]; rfl)) ?_; (with_reducible refine (spec_Within.calls a0 1 1099511627776 false _ A4.out).mono ?_); rintro e w' ⟨rfl, ⟨nd, rfl⟩⟩; refine ⟨_, rfl, ?_⟩))
      go_meet
      case rel => exact ⟨_, (true), (by first | rfl | (simp; done) | (simp [*]; done)), H', ⟨by first | omega | exact Nat.le_refl _⟩, ⟨by repeat (first | (with_reducible first | exact HB.out | apply below_alloc | apply pw_below_drewN | apply below_drew1) | exact HB.out)⟩⟩
  case rest =>
    clear HC3
    try clear c2
    try clear p2
    try clear c5
    obtain ⟨kq, x17_2, rfl, HA, HJ2, HB⟩ := hcut
    cases kq with
    | zero => exact absurd HA.out (by simp [laws_FnMarkTwice.j0])
    | succ kj2 =>
      have H := HA.out
      clear HA
      simp only [laws_FnMarkTwice.j0] at H
      by_cases c7 : x17_2 = true
      · subst c7
        have H1 : ((laws_marksWork.f).bind fun t351 => (some t351)) = some r := by rw [if_pos rfl] at H; exact H
        clear H
        have H := H1
        clear H1
        replace H := Option.bind_eq_some_iff.mp H
        obtain ⟨t351, A80, H⟩ := H
        replace H : (some t351) = some r := H
        have A8 := Aside0.mk A80
        clear A80
        obtain rfl := Option.some.inj H
        go_wp2_with (first | ((with_reducible refine gate_callee (f := 13) rfl ?_); refine goesL_ (some 18) rfl rfl Try.func13 (by kernel_rfl) rfl #[] rfl (by (try simp only [List.map_toArray, List.map_cons, List.map_nil]); first | done | rfl | (simp only [List.length_drop, List.length_take]; rfl)) ?_; (with_reducible refine (laws_marksWork.calls  t351 _ A8.out).mono ?_); rintro e w9 ⟨rfl, hb⟩; refine ⟨_, rfl, ?_⟩; have n0_ := Aside0.mk (below_step (by repeat (first | (with_reducible first | exact HB.out | apply below_alloc | apply pw_below_drewN | apply below_drew1) | exact HB.out)) hb); clear HB; have HB := n0_; clear n0_; (try clear hb); (try clear hb2); (try clear hk); (try clear hi)))
        go_ret
        exact ⟨by first | rfl | (simp [errW_none, errW_some] <;> rfl) | (simp [*, errW_none, errW_some] <;> rfl), by repeat (first | (with_reducible first | exact HB.out | apply below_alloc | apply pw_below_drewN | apply below_drew1) | exact HB.out)⟩
      · replace c7 := Bool.eq_false_iff.mpr c7
        subst c7
        have H1 : (laws_FnMarkTwice.l0 kj2 a0 a1 (([] : List (S31))) 0) = some r := by rw [if_neg (show ¬ (false = true) by decide)] at H; exact H
        clear H
        have H := H1
        clear H1
        obtain ⟨y352, hy352⟩ : ∃ y_ : List (S31), y_ = (([] : List (S31))) := ⟨_, rfl⟩
        replace H : (laws_FnMarkTwice.l0 kj2 a0 a1 y352 0) = some r := by first | (rw [hy352]; with_reducible exact H) | (have H2_ := (Option.bind_some _ _).symm.trans H; rw [hy352]; with_reducible exact H2_) | (have H2_ := (Option.bind_some _ _).symm.trans H; with_reducible exact H2_) | with_reducible exact H | (rw [hy352]; exact H) | exact H
        have Ny352 := Aside0.mk hy352
        clear hy352
        have H' := Aside0.mk H
        clear H
        go_wp2_with (first | ((with_reducible refine gate_dst (N := 19) rfl ?_); refine Kd.S_lit k31 _ 31 ?hg (N := 19) ?hd (xs := ([] : List (S31))) (inner := []) (ok := fun _ => True) (okp := fun _ => True) ?hr ?hp (fun _ hk => hk) trivial (Below.refl _ _) (Nat.le_refl _) (by simp) ?_; (case hd => rfl); (case hg => rfl); (case hr => first | (go_simp; done) | (go_simp; rfl)); (case hp => exact (Reps.none _ _)); intro v353 w10 ho11 hb hg_ hnew_; clear hg_ hnew_; (first | rw [← Ny352.out] at ho11 | (simp only [Int.reduceToNat] at ho11; rw [← Ny352.out] at ho11)); have n0_ := Aside0.mk (Kd.S_lower ho11 (below_size (by repeat (first | (with_reducible first | exact HB.out | apply below_alloc | apply pw_below_drewN | apply below_drew1) | exact HB.out)))); have n1_ := Aside0.mk (below_step (by repeat (first | (with_reducible first | exact HB.out | apply below_alloc | apply pw_below_drewN | apply below_drew1) | exact HB.out)) hb); clear HB; have HO354 := n0_; have HB := n1_; clear n0_ n1_; clear hb ho11))
        go_loopg [5, 6] kj2 (fun kq v5 v6 w' => ∃ (x5_2 : List (S31)) (x6_2 : Int), v6 = .int .i64 x6_2 ∧ Aside0 (laws_FnMarkTwice.l0 kq a0 a1 x5_2 x6_2 = some r) ∧ Aside0 (kq ≤ kj2) ∧ Aside0 (Kd.S k31 31 w' w.heap.size (fun _ => True) v5 x5_2) ∧ Aside0 (Below w.heap.size w w'))
        case atStart => exact ⟨(y352), (0), (by first | rfl | (simp; done) | (simp [*]; done)), H', ⟨Nat.le_refl _⟩, ⟨by (with_reducible repeat (first | apply Kd.S_alloc | apply Kd.S_drewN | apply Kd.S_drew)); exact HO354.out⟩, ⟨by repeat (first | (with_reducible first | exact HB.out | apply below_alloc | apply pw_below_drewN | apply below_drew1) | exact HB.out)⟩⟩
        case round =>
          clear H'
          try clear c1
          try clear c2
          try clear p2
          try clear c5
          try clear c7
          try clear c9
          try clear p2
          obtain ⟨x5_2, x6_2, rfl, HA, HK2, HO_5, HB⟩ := hrel
          cases gk with
          | zero => exact absurd HA.out (by simp [laws_FnMarkTwice.l0])
          | succ k2 =>
            have H := HA.out
            clear HA
            simp only [laws_FnMarkTwice.l0] at H
            by_cases c12 : x6_2 < a1
            · rw [if_pos c12] at H
              have c12b0 : decide (x6_2 < a1) = true := decide_eq_true c12
              clear c12
              by_cases c13 : x5_2.length < 3518437208883
              · rw [if_pos c13] at H
                have LMc13 := Aside0.mk c13
                clear c13
                obtain ⟨y355, hy355⟩ : ∃ y_ : List (S31), y_ = (x5_2 ++ [(⟨0, a0, ([] : List Int)⟩ : S31)]) := ⟨_, rfl⟩
                replace H : (laws_FnMarkTwice.l0 k2 a0 a1 y355 (wrap64 (x6_2 + 1))) = some r := by first | (rw [hy355]; with_reducible exact H) | (have H2_ := (Option.bind_some _ _).symm.trans H; rw [hy355]; with_reducible exact H2_) | (have H2_ := (Option.bind_some _ _).symm.trans H; with_reducible exact H2_) | with_reducible exact H | (rw [hy355]; exact H) | exact H
                have Ny355 := Aside0.mk hy355
                clear hy355
                have H' := Aside0.mk H
                clear H
                go_wp2_with (first | ((with_reducible refine gate_builtin (b := .append) (xs := #[.tmp 25, .tmp 28]) rfl ?_); at_builtin; refine Kd.S_append k31 (w0 := w) w.heap.size rfl (.tmp 25) (.tmp 28) 22 31 (.agg #[(.int .i64 0), (.int .i64 0), (.slice none 0 0)]) 40 rfl Try.underlying22 info31 rfl (by decide) (by omega) u5 x5_2 (⟨0, a0, ([] : List Int)⟩ : S31) [.int .i64 0, .int .i64 a0, .slice none 0 0] (fun _ => True) (fun _ => False) rfl rfl ?aP (fun k_ hk_ => hk_.elim) ?aF ?aO ?aB ?aS ?aL ?_; (case aP => exact k31_mkM _ _ _ (⟨0, a0, ([] : List Int)⟩ : S31) (Kd.R_nil _ _ _ _ _)); (case aB => exact (by repeat (first | (with_reducible first | exact HB.out | apply below_alloc | apply pw_below_drewN | apply below_drew1) | exact HB.out))); (case aF => exact (fun _ _ => trivial)); (case aO => exact (by (with_reducible repeat (first | apply Kd.S_alloc | apply Kd.S_drewN | apply Kd.S_drew)); exact Kd.S_mono HO_5.out (fun k_ hk => ⟨trivial, fun e_ => e_⟩))); (case aS => exact (below_size (by repeat (first | (with_reducible first | exact HB.out | apply below_alloc | apply pw_below_drewN | apply below_drew1) | exact HB.out)))); (case aL => have := LMc13.out; omega); intro v356 w14 ho hb hg hat; rw [← Ny355.out] at ho; have n0_ := Aside0.mk (hb); have n1_ := Aside0.mk (ho); clear HB; clear HO_5; have HB := n0_; have HO357 := n1_; clear n0_ n1_; clear ho hb hg hat))
                go_roundg k2
                case measure => have := HJ2.out; have := HK2.out; omega
                case rel => exact ⟨(y355), (wrap64 (x6_2 + 1)), (by first | rfl | (simp; done) | (simp [*]; done)), H', ⟨by have := HJ2.out; have := HK2.out; omega⟩, ⟨by (with_reducible repeat (first | apply Kd.S_alloc | apply Kd.S_drewN | apply Kd.S_drew)); exact HO357.out⟩, ⟨by repeat (first | (with_reducible first | exact HB.out | apply below_alloc | apply pw_below_drewN | apply below_drew1) | exact HB.out)⟩⟩
              · rw [if_neg c13] at H
                exact absurd H (by simp)
            · rw [if_neg c12] at H
              have c12b0 : decide (x6_2 < a1) = false := decide_eq_false c12
              clear c12
              have H' := Aside0.mk H
              clear H
              go_wp2
              go_loopg [5, 7] k2 (fun kq v5 v7 w' => ∃ (x5_3 : List (S31)) (x7_3 : Int), v7 = .int .i64 x7_3 ∧ Aside0 (laws_FnMarkTwice.l1 kq a0 a1 x5_3 x7_3 = some r) ∧ Aside0 (kq ≤ k2) ∧ Aside0 (Kd.S k31 31 w' w.heap.size (fun _ => True) v5 x5_3) ∧ Aside0 (Below w.heap.size w w'))
              case atStart => exact ⟨(x5_2), (0), (by first | rfl | (simp; done) | (simp [*]; done)), H', ⟨Nat.le_refl _⟩, ⟨by (with_reducible repeat (first | apply Kd.S_alloc | apply Kd.S_drewN | apply Kd.S_drew)); exact HO_5.out⟩, ⟨by repeat (first | (with_reducible first | exact HB.out | apply below_alloc | apply pw_below_drewN | apply below_drew1) | exact HB.out)⟩⟩
              case round =>
                clear H'
                try clear c1
                try clear c2
                try clear p2
                try clear c5
                try clear p6
                try clear c7
                try clear c9
                try clear c12
                try clear c12b0
                try clear c13
                try clear p2
                obtain ⟨x5_3, x7_3, rfl, HA, HK3, HO_5, HB⟩ := hrel
                cases gk with
                | zero => exact absurd HA.out (by simp [laws_FnMarkTwice.l1])
                | succ k3 =>
                  have H := HA.out
                  clear HA
                  simp only [laws_FnMarkTwice.l1] at H
                  by_cases c15 : x7_3 < a1
                  · rw [if_pos c15] at H
                    have c15b0 : decide (x7_3 < a1) = true := decide_eq_true c15
                    clear c15
                    by_cases c16 : x5_3.length < 3518437208883
                    · rw [if_pos c16] at H
                      have LMc16 := Aside0.mk c16
                      clear c16
                      obtain ⟨y358, hy358⟩ : ∃ y_ : List (S31), y_ = (x5_3 ++ [(⟨2, a0, ([] : List Int)⟩ : S31)]) := ⟨_, rfl⟩
                      replace H : (laws_FnMarkTwice.l1 k3 a0 a1 y358 (wrap64 (x7_3 + 1))) = some r := by first | (rw [hy358]; with_reducible exact H) | (have H2_ := (Option.bind_some _ _).symm.trans H; rw [hy358]; with_reducible exact H2_) | (have H2_ := (Option.bind_some _ _).symm.trans H; with_reducible exact H2_) | with_reducible exact H | (rw [hy358]; exact H) | exact H
                      have Ny358 := Aside0.mk hy358
                      clear hy358
                      have H' := Aside0.mk H
                      clear H
                      go_wp2_with (first | ((with_reducible refine gate_builtin (b := .append) (xs := #[.tmp 35, .tmp 38]) rfl ?_); at_builtin; refine Kd.S_append k31 (w0 := w) w.heap.size rfl (.tmp 35) (.tmp 38) 22 31 (.agg #[(.int .i64 0), (.int .i64 0), (.slice none 0 0)]) 40 rfl Try.underlying22 info31 rfl (by decide) (by omega) u5 x5_3 (⟨2, a0, ([] : List Int)⟩ : S31) [.int .i64 2, .int .i64 a0, .slice none 0 0] (fun _ => True) (fun _ => False) rfl rfl ?aP (fun k_ hk_ => hk_.elim) ?aF ?aO ?aB ?aS ?aL ?_; (case aP => exact k31_mkM _ _ _ (⟨2, a0, ([] : List Int)⟩ : S31) (Kd.R_nil _ _ _ _ _)); (case aB => exact (by repeat (first | (with_reducible first | exact HB.out | apply below_alloc | apply pw_below_drewN | apply below_drew1) | exact HB.out))); (case aF => exact (fun _ _ => trivial)); (case aO => exact (by (with_reducible repeat (first | apply Kd.S_alloc | apply Kd.S_drewN | apply Kd.S_drew)); exact Kd.S_mono HO_5.out (fun k_ hk => ⟨trivial, fun e_ => e_⟩))); (case aS => exact (below_size (by repeat (first | (with_reducible first | exact HB.out | apply below_alloc | apply pw_below_drewN | apply below_drew1) | exact HB.out)))); (case aL => have := LMc16.out; omega); intro v359 w17 ho hb hg hat; rw [← Ny358.out] at ho; have n0_ := Aside0.mk (hb); have n1_ := Aside0.mk (ho); clear HB; clear HO_5; have HB := n0_; have HO360 := n1_; clear n0_ n1_; clear ho hb hg hat))
                      go_roundg k3
                      case measure => have := HJ2.out; have := HK2.out; have := HK3.out; omega
                      case rel => exact ⟨(y358), (wrap64 (x7_3 + 1)), (by first | rfl | (simp; done) | (simp [*]; done)), H', ⟨by have := HJ2.out; have := HK2.out; have := HK3.out; omega⟩, ⟨by (with_reducible repeat (first | apply Kd.S_alloc | apply Kd.S_drewN | apply Kd.S_drew)); exact HO360.out⟩, ⟨by repeat (first | (with_reducible first | exact HB.out | apply below_alloc | apply pw_below_drewN | apply below_drew1) | exact HB.out)⟩⟩
                    · rw [if_neg c16] at H
                      exact absurd H (by simp)
                  · rw [if_neg c15] at H
                    have c15b0 : decide (x7_3 < a1) = false := decide_eq_false c15
                    clear c15
                    replace H := Option.bind_eq_some_iff.mp H
                    obtain ⟨t361, A180, H⟩ := H
                    replace H : (if (t361.length : Int) = (wrap64 (2 * a1)) then (laws_FnMarkTwice.l2 k3 a0 a1 t361 (t361.length : Int) 0) else (some false)) = some r := H
                    have A18 := Aside0.mk A180
                    clear A180
                    by_cases c19 : (t361.length : Int) = (wrap64 (2 * a1))
                    · rw [if_pos c19] at H
                      have c19b0 : ((t361.length : Int) == (wrap64 (2 * a1))) = true := beq_iff_eq.mpr c19
                      have c19b1 : ((t361.length : Int) != (wrap64 (2 * a1))) = false := bne_eq_false_iff_eq.mpr c19
                      clear c19
                      have H' := Aside0.mk H
                      clear H
                      obtain ⟨Ao20, co20, eo20⟩ := Kd.S_slice HO_5.out
                      subst eo20
                      go_wp2_with (first | ((with_reducible refine gate_callee (f := 14) rfl ?_); refine goesL_ (some 41) rfl rfl Try.func14 (by kernel_rfl) rfl #[.slice Ao20 x5_3.length co20] rfl (by (try simp only [List.map_toArray, List.map_cons, List.map_nil]); first | done | rfl | (simp only [List.length_drop, List.length_take]; rfl)) ?_; (with_reducible refine (impl_RunMarks.calls _ _ x5_3 t361 _ ?side1 ?side2 A18.out).mono ?_); (case side1 => repeat (first | exact (Kd.S_reads' HO_5.out).2.2 | (with_reducible refine Kd.C_alloc ?_ _) | (with_reducible refine Kd.C_drewN ?_ _) | (with_reducible refine Kd.C_drew ?_))); (case side2 => exact (Kd.S_reads' HO_5.out).2.1); rintro e w21 ⟨v362, rfl, ho0, hb⟩; refine ⟨_, rfl, ?_⟩; have n0_ := Aside0.mk (Kd.S_below (by (with_reducible repeat (first | apply Kd.S_alloc | apply Kd.S_drewN | apply Kd.S_drew)); exact HO_5.out) hb); have n1_ := Aside0.mk (Kd.S_lower ho0 (below_size (by repeat (first | (with_reducible first | exact HB.out | apply below_alloc | apply pw_below_drewN | apply below_drew1) | exact HB.out)))); have n2_ := Aside0.mk (below_step (by repeat (first | (with_reducible first | exact HB.out | apply below_alloc | apply pw_below_drewN | apply below_drew1) | exact HB.out)) hb); clear HO_5; clear HB; have HO_5 := n0_; have HO363 := n1_; have HB := n2_; clear n0_ n1_ n2_; (try clear hb); (try clear hb2); (try clear hk); (try clear hi); (try clear ho0); obtain ⟨Ao22, co22, eo22⟩ := Kd.S_slice HO363.out; subst eo22))
                      go_loopg [49] k3 (fun kq v49 w' => ∃ (x49_4 : Int), v49 = .int .i64 x49_4 ∧ Aside0 (laws_FnMarkTwice.l2 kq a0 a1 t361 (t361.length : Int) x49_4 = some r) ∧ Aside0 (kq ≤ k3) ∧ Aside0 (Kd.S k34 34 w' w.heap.size (fun _ => True) (.slice Ao22 t361.length co22) t361) ∧ Aside0 (Below w.heap.size w w'))
                      case atStart => exact ⟨(0), (by first | rfl | (simp; done) | (simp [*]; done)), H', ⟨Nat.le_refl _⟩, ⟨by (with_reducible repeat (first | apply Kd.S_alloc | apply Kd.S_drewN | apply Kd.S_drew)); exact HO363.out⟩, ⟨by repeat (first | (with_reducible first | exact HB.out | apply below_alloc | apply pw_below_drewN | apply below_drew1) | exact HB.out)⟩⟩
                      case round =>
                        clear H'
                        try clear c1
                        try clear c2
                        try clear p2
                        try clear c5
                        try clear p6
                        try clear c7
                        try clear c9
                        try clear c12
                        try clear c12b0
                        try clear c13
                        try clear c14
                        try clear c15
                        try clear c15b0
                        try clear c16
                        try clear c19
                        try clear c19b0
                        try clear c19b1
                        try clear c20
                        try clear p2
                        try clear p6
                        obtain ⟨x49_4, rfl, HA, HK4, HO_8, HB⟩ := hrel
                        cases gk with
                        | zero => exact absurd HA.out (by simp [laws_FnMarkTwice.l2])
                        | succ k4 =>
                          have H := HA.out
                          clear HA
                          simp only [laws_FnMarkTwice.l2] at H
                          by_cases c23 : x49_4 < (t361.length : Int)
                          · rw [if_pos c23] at H
                            have c23b0 : decide (x49_4 < (t361.length : Int)) = true := decide_eq_true c23
                            clear c23
                            by_cases c24 : 0 ≤ x49_4
                            · rw [if_pos c24] at H
                              have c24b0 : decide (0 ≤ x49_4) = true := decide_eq_true c24
                              clear c24
                              by_cases c25 : x49_4 < (t361.length : Int)
                              · rw [if_pos c25] at H
                                have c25b0 : decide (x49_4 < (t361.length : Int)) = true := decide_eq_true c25
                                clear c25
                                by_cases c26 : ((rd_T34 t361 x49_4).f0) = 0
                                · rw [if_pos c26] at H
                                  have c26b0 : (((rd_T34 t361 x49_4).f0) == 0) = true := beq_iff_eq.mpr c26
                                  have c26b1 : (((rd_T34 t361 x49_4).f0) != 0) = false := bne_eq_false_iff_eq.mpr c26
                                  clear c26
                                  have H' := Aside0.mk H
                                  clear H
                                  have p364 : 0 ≤ (x49_4 : Int) := of_decide_eq_true (by first | (with_reducible assumption) | assumption)
                                  have q364 : x49_4 < (t361.length : Int) := of_decide_eq_true (by first | (with_reducible assumption) | assumption)
                                  obtain ⟨ad364, A364_4, c364_4, e364, hx364_0, hx364_1, hx364_2, hx364_3, hx364_4, hl364_4, hi364_4⟩ := at_T34 (Kd.S_reads' HO_8.out).2.2 x49_4 p364 q364
                                  cases e364
                                  obtain ⟨ce364, hce364, hMe364, hcc364⟩ := Kd.S_get HO_8.out z34 x49_4 p364 (by first | exact q364 | exact of_decide_eq_true (by first | (with_reducible assumption) | assumption) | (have e_ := (Kd.S_reads' HO_8.out).1; omega))
                                  obtain ⟨ve364_4, rfl, ge364_4⟩ := k34_openM hMe364
                                  have hv364_4 := hcc364 4 _ rfl
                                  rw [add_field _ _ 4 (by omega)] at hv364_4
                                  replace hv364_4 := Option.some.inj (hv364_4.symm.trans hx364_4)
                                  rw [hv364_4] at ge364_4
                                  have HL364_4 := Aside0.mk (show Kd.R Kd.bool 4 _ _ _ _ ((rd_T34 t361 x49_4).f4) from ge364_4)
                                  clear hv364_4 ge364_4
                                  clear hcc364 hce364
                                  have HR364_4 := Aside0.mk hi364_4
                                  have HC364_4 := Aside0.mk hl364_4
                                  clear hi364_4 hl364_4
                                  replace p364 := eq_true p364
                                  replace q364 := eq_true q364
                                  go_wp2
                                  go_roundg k4
                                  case measure => have := HJ2.out; have := HK2.out; have := HK3.out; have := HK4.out; omega
                                  case rel => exact ⟨(wrap64 (x49_4 + 1)), (by first | rfl | (simp; done) | (simp [*]; done)), H', ⟨by have := HJ2.out; have := HK2.out; have := HK3.out; have := HK4.out; omega⟩, ⟨by (with_reducible repeat (first | apply Kd.S_alloc | apply Kd.S_drewN | apply Kd.S_drew)); exact HO_8.out⟩, ⟨by repeat (first | (with_reducible first | exact HB.out | apply below_alloc | apply pw_below_drewN | apply below_drew1) | exact HB.out)⟩⟩
                                · rw [if_neg c26] at H
                                  have c26b0 : (((rd_T34 t361 x49_4).f0) == 0) = false := beq_eq_false_iff_ne.mpr c26
                                  have c26b1 : (((rd_T34 t361 x49_4).f0) != 0) = true := bne_iff_ne.mpr c26
                                  by_cases c27 : x49_4 < (wrap64 ((wrap64 (2 * a1)) - 1))
                                  · rw [if_pos c27] at H
                                    have c27b0 : decide (x49_4 < (wrap64 ((wrap64 (2 * a1)) - 1))) = true := decide_eq_true c27
                                    clear c27
                                    obtain rfl := Option.some.inj H
                                    have p364 : 0 ≤ (x49_4 : Int) := of_decide_eq_true (by first | (with_reducible assumption) | assumption)
                                    have q364 : x49_4 < (t361.length : Int) := of_decide_eq_true (by first | (with_reducible assumption) | assumption)
                                    obtain ⟨ad364, A364_4, c364_4, e364, hx364_0, hx364_1, hx364_2, hx364_3, hx364_4, hl364_4, hi364_4⟩ := at_T34 (Kd.S_reads' HO_8.out).2.2 x49_4 p364 q364
                                    cases e364
                                    obtain ⟨ce364, hce364, hMe364, hcc364⟩ := Kd.S_get HO_8.out z34 x49_4 p364 (by first | exact q364 | exact of_decide_eq_true (by first | (with_reducible assumption) | assumption) | (have e_ := (Kd.S_reads' HO_8.out).1; omega))
                                    obtain ⟨ve364_4, rfl, ge364_4⟩ := k34_openM hMe364
                                    have hv364_4 := hcc364 4 _ rfl
                                    rw [add_field _ _ 4 (by omega)] at hv364_4
                                    replace hv364_4 := Option.some.inj (hv364_4.symm.trans hx364_4)
                                    rw [hv364_4] at ge364_4
                                    have HL364_4 := Aside0.mk (show Kd.R Kd.bool 4 _ _ _ _ ((rd_T34 t361 x49_4).f4) from ge364_4)
                                    clear hv364_4 ge364_4
                                    clear hcc364 hce364
                                    have HR364_4 := Aside0.mk hi364_4
                                    have HC364_4 := Aside0.mk hl364_4
                                    clear hi364_4 hl364_4
                                    replace p364 := eq_true p364
                                    replace q364 := eq_true q364
                                    go_wp2
                                    go_ret
                                    exact ⟨by first | rfl | (simp [errW_none, errW_some] <;> rfl) | (simp [*, errW_none, errW_some] <;> rfl), by repeat (first | (with_reducible first | exact HB.out | apply below_alloc | apply pw_below_drewN | apply below_drew1) | exact HB.out)⟩
                                  · rw [if_neg c27] at H
                                    have c27b0 : decide (x49_4 < (wrap64 ((wrap64 (2 * a1)) - 1))) = false := decide_eq_false c27
                                    clear c27
                                    have H' := Aside0.mk H
                                    clear H
                                    have p364 : 0 ≤ (x49_4 : Int) := of_decide_eq_true (by first | (with_reducible assumption) | assumption)
                                    have q364 : x49_4 < (t361.length : Int) := of_decide_eq_true (by first | (with_reducible assumption) | assumption)
                                    obtain ⟨ad364, A364_4, c364_4, e364, hx364_0, hx364_1, hx364_2, hx364_3, hx364_4, hl364_4, hi364_4⟩ := at_T34 (Kd.S_reads' HO_8.out).2.2 x49_4 p364 q364
                                    cases e364
                                    obtain ⟨ce364, hce364, hMe364, hcc364⟩ := Kd.S_get HO_8.out z34 x49_4 p364 (by first | exact q364 | exact of_decide_eq_true (by first | (with_reducible assumption) | assumption) | (have e_ := (Kd.S_reads' HO_8.out).1; omega))
                                    obtain ⟨ve364_4, rfl, ge364_4⟩ := k34_openM hMe364
                                    have hv364_4 := hcc364 4 _ rfl
                                    rw [add_field _ _ 4 (by omega)] at hv364_4
                                    replace hv364_4 := Option.some.inj (hv364_4.symm.trans hx364_4)
                                    rw [hv364_4] at ge364_4
                                    have HL364_4 := Aside0.mk (show Kd.R Kd.bool 4 _ _ _ _ ((rd_T34 t361 x49_4).f4) from ge364_4)
                                    clear hv364_4 ge364_4
                                    clear hcc364 hce364
                                    have HR364_4 := Aside0.mk hi364_4
                                    have HC364_4 := Aside0.mk hl364_4
                                    clear hi364_4 hl364_4
                                    replace p364 := eq_true p364
                                    replace q364 := eq_true q364
                                    go_wp2
                                    go_roundg k4
                                    case measure => have := HJ2.out; have := HK2.out; have := HK3.out; have := HK4.out; omega
                                    case rel => exact ⟨(wrap64 (x49_4 + 1)), (by first | rfl | (simp; done) | (simp [*]; done)), H', ⟨by have := HJ2.out; have := HK2.out; have := HK3.out; have := HK4.out; omega⟩, ⟨by (with_reducible repeat (first | apply Kd.S_alloc | apply Kd.S_drewN | apply Kd.S_drew)); exact HO_8.out⟩, ⟨by repeat (first | (with_reducible first | exact HB.out | apply below_alloc | apply pw_below_drewN | apply below_drew1) | exact HB.out)⟩⟩
                              · rw [if_neg c25] at H
                                exact absurd H (by simp)
                            · rw [if_neg c24] at H
                              exact absurd H (by simp)
                          · rw [if_neg c23] at H
                            have c23b0 : decide (x49_4 < (t361.length : Int)) = false := decide_eq_false c23
                            clear c23
                            obtain ⟨ji28, hji28⟩ : ∃ j_ : Int, (wrap64 ((wrap64 (2 * a1)) - 1)) = j_ := ⟨_, rfl⟩
                            replace H : (if 0 ≤ (ji28) then (if (ji28) < (t361.length : Int) then (if ((rd_T34 t361 (ji28)).f0) = a0 then (if ((rd_T34 t361 (ji28)).f2) = 0 then ((laws_marksWork.f).bind fun t367 => (some t367)) else (some false)) else (some false)) else (none)) else (none)) = some r := by first | (rw [hji28] at H; exact H) | (simp only [hji28] at H ⊢; exact H)
                            have hji28w : (IntKind.i64.wrap ((wrap64 (2 * a1)) - 1)) = ji28 := (i64_w _).trans hji28
                            by_cases c29 : 0 ≤ (ji28)
                            · rw [if_pos c29] at H
                              have c29b0 : decide (0 ≤ (ji28)) = true := decide_eq_true c29
                              clear c29
                              by_cases c30 : (ji28) < (t361.length : Int)
                              · rw [if_pos c30] at H
                                have c30b0 : decide ((ji28) < (t361.length : Int)) = true := decide_eq_true c30
                                clear c30
                                by_cases c31 : ((rd_T34 t361 (ji28)).f0) = a0
                                · rw [if_pos c31] at H
                                  have c31b0 : (((rd_T34 t361 (ji28)).f0) == a0) = true := beq_iff_eq.mpr c31
                                  have c31b1 : (((rd_T34 t361 (ji28)).f0) != a0) = false := bne_eq_false_iff_eq.mpr c31
                                  clear c31
                                  by_cases c32 : ((rd_T34 t361 (ji28)).f2) = 0
                                  · rw [if_pos c32] at H
                                    have c32b0 : (((rd_T34 t361 (ji28)).f2) == 0) = true := beq_iff_eq.mpr c32
                                    have c32b1 : (((rd_T34 t361 (ji28)).f2) != 0) = false := bne_eq_false_iff_eq.mpr c32
                                    clear c32
                                    replace H := Option.bind_eq_some_iff.mp H
                                    obtain ⟨t367, A330, H⟩ := H
                                    replace H : (some t367) = some r := H
                                    have A33 := Aside0.mk A330
                                    clear A330
                                    obtain rfl := Option.some.inj H
                                    have p365 : 0 ≤ ((ji28) : Int) := of_decide_eq_true (by first | (with_reducible assumption) | assumption)
                                    have q365 : (ji28) < (t361.length : Int) := of_decide_eq_true (by first | (with_reducible assumption) | assumption)
                                    obtain ⟨ad365, A365_4, c365_4, e365, hx365_0, hx365_1, hx365_2, hx365_3, hx365_4, hl365_4, hi365_4⟩ := at_T34 (Kd.S_reads' HO_8.out).2.2 (ji28) p365 q365
                                    cases e365
                                    obtain ⟨ce365, hce365, hMe365, hcc365⟩ := Kd.S_get HO_8.out z34 (ji28) p365 (by first | exact q365 | exact of_decide_eq_true (by first | (with_reducible assumption) | assumption) | (have e_ := (Kd.S_reads' HO_8.out).1; omega))
                                    obtain ⟨ve365_4, rfl, ge365_4⟩ := k34_openM hMe365
                                    have hv365_4 := hcc365 4 _ rfl
                                    rw [add_field _ _ 4 (by omega)] at hv365_4
                                    replace hv365_4 := Option.some.inj (hv365_4.symm.trans hx365_4)
                                    rw [hv365_4] at ge365_4
                                    have HL365_4 := Aside0.mk (show Kd.R Kd.bool 4 _ _ _ _ ((rd_T34 t361 (ji28)).f4) from ge365_4)
                                    clear hv365_4 ge365_4
                                    clear hcc365 hce365
                                    have HR365_4 := Aside0.mk hi365_4
                                    have HC365_4 := Aside0.mk hl365_4
                                    clear hi365_4 hl365_4
                                    replace p365 := eq_true p365
                                    replace q365 := eq_true q365
                                    have p366 : 0 ≤ ((ji28) : Int) := of_decide_eq_true (by first | (with_reducible assumption) | assumption)
                                    have q366 : (ji28) < (t361.length : Int) := of_decide_eq_true (by first | (with_reducible assumption) | assumption)
                                    obtain ⟨ad366, A366_4, c366_4, e366, hx366_0, hx366_1, hx366_2, hx366_3, hx366_4, hl366_4, hi366_4⟩ := at_T34 (Kd.S_reads' HO_8.out).2.2 (ji28) p366 q366
                                    obtain rfl : ad365 = ad366 := (by injection e366)
                                    obtain ⟨ce366, hce366, hMe366, hcc366⟩ := Kd.S_get HO_8.out z34 (ji28) p366 (by first | exact q366 | exact of_decide_eq_true (by first | (with_reducible assumption) | assumption) | (have e_ := (Kd.S_reads' HO_8.out).1; omega))
                                    obtain ⟨ve366_4, rfl, ge366_4⟩ := k34_openM hMe366
                                    have hv366_4 := hcc366 4 _ rfl
                                    rw [add_field _ _ 4 (by omega)] at hv366_4
                                    replace hv366_4 := Option.some.inj (hv366_4.symm.trans hx366_4)
                                    rw [hv366_4] at ge366_4
                                    have HL366_4 := Aside0.mk (show Kd.R Kd.bool 4 _ _ _ _ ((rd_T34 t361 (ji28)).f4) from ge366_4)
                                    clear hv366_4 ge366_4
                                    clear hcc366 hce366
                                    have HR366_4 := Aside0.mk hi366_4
                                    have HC366_4 := Aside0.mk hl366_4
                                    clear hi366_4 hl366_4
                                    replace p366 := eq_true p366
                                    replace q366 := eq_true q366
                                    have ea_ := Option.some.inj (hx365_4.symm.trans hx366_4)
                                    injection ea_ with ea_ en_ ec_
                                    subst ea_
                                    subst ec_
                                    clear en_
                                    go_wp2_with (first | (go_at_call 13; (with_reducible refine (laws_marksWork.calls  t367 _ A33.out).mono ?_); rintro e w34 ⟨rfl, hb⟩; have n0_ := Aside0.mk (Kd.S_below (by (with_reducible repeat (first | apply Kd.S_alloc | apply Kd.S_drewN | apply Kd.S_drew)); exact HO_8.out) hb); have n1_ := Aside0.mk (Kd.R_below (by (with_reducible repeat (first | apply Kd.R_alloc | apply Kd.R_drewN | apply Kd.R_drew)); exact HL365_4.out) hb); have n2_ := Aside0.mk (Kd.R_below (by (with_reducible repeat (first | apply Kd.R_alloc | apply Kd.R_drewN | apply Kd.R_drew)); exact HL366_4.out) hb); have n3_ := Aside0.mk (Kd.C_below (by repeat (first | (with_reducible exact HR365_4.out) | (with_reducible refine Kd.C_alloc ?_ _) | (with_reducible refine Kd.C_drewN ?_ _) | (with_reducible refine Kd.C_drew ?_) | exact HR365_4.out)) hb); have n4_ := Aside0.mk (Kd.C_below (by repeat (first | (with_reducible exact HR366_4.out) | (with_reducible refine Kd.C_alloc ?_ _) | (with_reducible refine Kd.C_drewN ?_ _) | (with_reducible refine Kd.C_drew ?_) | exact HR366_4.out)) hb); have n5_ := Aside0.mk (below_step (by repeat (first | (with_reducible first | exact HB.out | apply below_alloc | apply pw_below_drewN | apply below_drew1) | exact HB.out)) hb); clear HO_8; clear HL365_4; clear HL366_4; clear HR365_4; clear HR366_4; clear HB; have HO_8 := n0_; have HL365_4 := n1_; have HL366_4 := n2_; have HR365_4 := n3_; have HR366_4 := n4_; have HB := n5_; clear n0_ n1_ n2_ n3_ n4_ n5_; (try clear hb); (try clear hb2); (try clear hk); (try clear hi)))
                                    go_ret
                                    exact ⟨by first | rfl | (simp [errW_none, errW_some] <;> rfl) | (simp only [← hji28]; first | rfl | (simp [errW_none, errW_some] <;> rfl)) | (simp [*, errW_none, errW_some] <;> rfl), by repeat (first | (with_reducible first | exact HB.out | apply below_alloc | apply pw_below_drewN | apply below_drew1) | exact HB.out)⟩
                                  · rw [if_neg c32] at H
                                    have c32b0 : (((rd_T34 t361 (ji28)).f2) == 0) = false := beq_eq_false_iff_ne.mpr c32
                                    have c32b1 : (((rd_T34 t361 (ji28)).f2) != 0) = true := bne_iff_ne.mpr c32
                                    obtain rfl := Option.some.inj H
                                    have p365 : 0 ≤ ((ji28) : Int) := of_decide_eq_true (by first | (with_reducible assumption) | assumption)
                                    have q365 : (ji28) < (t361.length : Int) := of_decide_eq_true (by first | (with_reducible assumption) | assumption)
                                    obtain ⟨ad365, A365_4, c365_4, e365, hx365_0, hx365_1, hx365_2, hx365_3, hx365_4, hl365_4, hi365_4⟩ := at_T34 (Kd.S_reads' HO_8.out).2.2 (ji28) p365 q365
                                    cases e365
                                    obtain ⟨ce365, hce365, hMe365, hcc365⟩ := Kd.S_get HO_8.out z34 (ji28) p365 (by first | exact q365 | exact of_decide_eq_true (by first | (with_reducible assumption) | assumption) | (have e_ := (Kd.S_reads' HO_8.out).1; omega))
                                    obtain ⟨ve365_4, rfl, ge365_4⟩ := k34_openM hMe365
                                    have hv365_4 := hcc365 4 _ rfl
                                    rw [add_field _ _ 4 (by omega)] at hv365_4
                                    replace hv365_4 := Option.some.inj (hv365_4.symm.trans hx365_4)
                                    rw [hv365_4] at ge365_4
                                    have HL365_4 := Aside0.mk (show Kd.R Kd.bool 4 _ _ _ _ ((rd_T34 t361 (ji28)).f4) from ge365_4)
                                    clear hv365_4 ge365_4
                                    clear hcc365 hce365
                                    have HR365_4 := Aside0.mk hi365_4
                                    have HC365_4 := Aside0.mk hl365_4
                                    clear hi365_4 hl365_4
                                    replace p365 := eq_true p365
                                    replace q365 := eq_true q365
                                    have p366 : 0 ≤ ((ji28) : Int) := of_decide_eq_true (by first | (with_reducible assumption) | assumption)
                                    have q366 : (ji28) < (t361.length : Int) := of_decide_eq_true (by first | (with_reducible assumption) | assumption)
                                    obtain ⟨ad366, A366_4, c366_4, e366, hx366_0, hx366_1, hx366_2, hx366_3, hx366_4, hl366_4, hi366_4⟩ := at_T34 (Kd.S_reads' HO_8.out).2.2 (ji28) p366 q366
                                    obtain rfl : ad365 = ad366 := (by injection e366)
                                    obtain ⟨ce366, hce366, hMe366, hcc366⟩ := Kd.S_get HO_8.out z34 (ji28) p366 (by first | exact q366 | exact of_decide_eq_true (by first | (with_reducible assumption) | assumption) | (have e_ := (Kd.S_reads' HO_8.out).1; omega))
                                    obtain ⟨ve366_4, rfl, ge366_4⟩ := k34_openM hMe366
                                    have hv366_4 := hcc366 4 _ rfl
                                    rw [add_field _ _ 4 (by omega)] at hv366_4
                                    replace hv366_4 := Option.some.inj (hv366_4.symm.trans hx366_4)
                                    rw [hv366_4] at ge366_4
                                    have HL366_4 := Aside0.mk (show Kd.R Kd.bool 4 _ _ _ _ ((rd_T34 t361 (ji28)).f4) from ge366_4)
                                    clear hv366_4 ge366_4
                                    clear hcc366 hce366
                                    have HR366_4 := Aside0.mk hi366_4
                                    have HC366_4 := Aside0.mk hl366_4
                                    clear hi366_4 hl366_4
                                    replace p366 := eq_true p366
                                    replace q366 := eq_true q366
                                    have ea_ := Option.some.inj (hx365_4.symm.trans hx366_4)
                                    injection ea_ with ea_ en_ ec_
                                    subst ea_
                                    subst ec_
                                    clear en_
                                    go_wp2
                                    go_ret
                                    exact ⟨by first | rfl | (simp [errW_none, errW_some] <;> rfl) | (simp only [← hji28]; first | rfl | (simp [errW_none, errW_some] <;> rfl)) | (simp [*, errW_none, errW_some] <;> rfl), by repeat (first | (with_reducible first | exact HB.out | apply below_alloc | apply pw_below_drewN | apply below_drew1) | exact HB.out)⟩
                                · rw [if_neg c31] at H
                                  have c31b0 : (((rd_T34 t361 (ji28)).f0) == a0) = false := beq_eq_false_iff_ne.mpr c31
                                  have c31b1 : (((rd_T34 t361 (ji28)).f0) != a0) = true := bne_iff_ne.mpr c31
                                  obtain rfl := Option.some.inj H
                                  have p365 : 0 ≤ ((ji28) : Int) := of_decide_eq_true (by first | (with_reducible assumption) | assumption)
                                  have q365 : (ji28) < (t361.length : Int) := of_decide_eq_true (by first | (with_reducible assumption) | assumption)
                                  obtain ⟨ad365, A365_4, c365_4, e365, hx365_0, hx365_1, hx365_2, hx365_3, hx365_4, hl365_4, hi365_4⟩ := at_T34 (Kd.S_reads' HO_8.out).2.2 (ji28) p365 q365
                                  cases e365
                                  obtain ⟨ce365, hce365, hMe365, hcc365⟩ := Kd.S_get HO_8.out z34 (ji28) p365 (by first | exact q365 | exact of_decide_eq_true (by first | (with_reducible assumption) | assumption) | (have e_ := (Kd.S_reads' HO_8.out).1; omega))
                                  obtain ⟨ve365_4, rfl, ge365_4⟩ := k34_openM hMe365
                                  have hv365_4 := hcc365 4 _ rfl
                                  rw [add_field _ _ 4 (by omega)] at hv365_4
                                  replace hv365_4 := Option.some.inj (hv365_4.symm.trans hx365_4)
                                  rw [hv365_4] at ge365_4
                                  have HL365_4 := Aside0.mk (show Kd.R Kd.bool 4 _ _ _ _ ((rd_T34 t361 (ji28)).f4) from ge365_4)
                                  clear hv365_4 ge365_4
                                  clear hcc365 hce365
                                  have HR365_4 := Aside0.mk hi365_4
                                  have HC365_4 := Aside0.mk hl365_4
                                  clear hi365_4 hl365_4
                                  replace p365 := eq_true p365
                                  replace q365 := eq_true q365
                                  go_wp2
                                  go_ret
                                  exact ⟨by first | rfl | (simp [errW_none, errW_some] <;> rfl) | (simp only [← hji28]; first | rfl | (simp [errW_none, errW_some] <;> rfl)) | (simp [*, errW_none, errW_some] <;> rfl), by repeat (first | (with_reducible first | exact HB.out | apply below_alloc | apply pw_below_drewN | apply below_drew1) | exact HB.out)⟩
                              · rw [if_neg c30] at H
                                exact absurd H (by simp)
                            · rw [if_neg c29] at H
                              exact absurd H (by simp)
                    · rw [if_neg c19] at H
                      have c19b0 : ((t361.length : Int) == (wrap64 (2 * a1))) = false := beq_eq_false_iff_ne.mpr c19
                      have c19b1 : ((t361.length : Int) != (wrap64 (2 * a1))) = true := bne_iff_ne.mpr c19
                      obtain rfl := Option.some.inj H
                      obtain ⟨Ao35, co35, eo35⟩ := Kd.S_slice HO_5.out
                      subst eo35
                      go_wp2_with (first | ((with_reducible refine gate_callee (f := 14) rfl ?_); refine goesL_ (some 41) rfl rfl Try.func14 (by kernel_rfl) rfl #[.slice Ao35 x5_3.length co35] rfl (by (try simp only [List.map_toArray, List.map_cons, List.map_nil]); first | done | rfl | (simp only [List.length_drop, List.length_take]; rfl)) ?_; (with_reducible refine (impl_RunMarks.calls _ _ x5_3 t361 _ ?side1 ?side2 A18.out).mono ?_); (case side1 => repeat (first | exact (Kd.S_reads' HO_5.out).2.2 | (with_reducible refine Kd.C_alloc ?_ _) | (with_reducible refine Kd.C_drewN ?_ _) | (with_reducible refine Kd.C_drew ?_))); (case side2 => exact (Kd.S_reads' HO_5.out).2.1); rintro e w36 ⟨v362, rfl, ho0, hb⟩; refine ⟨_, rfl, ?_⟩; have n0_ := Aside0.mk (Kd.S_below (by (with_reducible repeat (first | apply Kd.S_alloc | apply Kd.S_drewN | apply Kd.S_drew)); exact HO_5.out) hb); have n1_ := Aside0.mk (Kd.S_lower ho0 (below_size (by repeat (first | (with_reducible first | exact HB.out | apply below_alloc | apply pw_below_drewN | apply below_drew1) | exact HB.out)))); have n2_ := Aside0.mk (below_step (by repeat (first | (with_reducible first | exact HB.out | apply below_alloc | apply pw_below_drewN | apply below_drew1) | exact HB.out)) hb); clear HO_5; clear HB; have HO_5 := n0_; have HO363 := n1_; have HB := n2_; clear n0_ n1_ n2_; (try clear hb); (try clear hb2); (try clear hk); (try clear hi); (try clear ho0); obtain ⟨Ao37, co37, eo37⟩ := Kd.S_slice HO363.out; subst eo37))
                      go_ret
                      exact ⟨by first | rfl | (simp [errW_none, errW_some] <;> rfl) | (simp [*, errW_none, errW_some] <;> rfl), by repeat (first | (with_reducible first | exact HB.out | apply below_alloc | apply pw_below_drewN | apply below_drew1) | exact HB.out)⟩

/-- THE ONE PURE STATEMENT of laws_FnMarkTwice: yours. -/
def laws_FnMarkTwice.Pure : Prop := ∀ (a0 : Int) (a1 : Int), (Lit.int .i64 a0).wf = true → (Lit.int .i64 a1).wf = true → ∃ k, laws_FnMarkTwice.f k a0 a1 = some true
theorem laws_FnMarkTwice.walk (P : laws_FnMarkTwice.Pure) (a0 : Int) (a1 : Int) (w : World) (w0 : (Lit.int .i64 a0).wf = true) (w1 : (Lit.int .i64 a1).wf = true) :
    Calls Try.prog 9 #[.int .i64 a0, .int .i64 a1] w fun e w' => e = .returned (.bool true) ∧ Below w.heap.size w w' := by
  obtain ⟨k, h⟩ := P a0 a1 w0 w1
  refine (laws_FnMarkTwice.calls k a0 a1 true w h).mono ?_
  rintro e w' ⟨rfl, hd⟩
  exact ⟨rfl, hd⟩

/-! ### laws_FnMarkWaits: function 10 -/
def laws_FnMarkWaits.l0 : Nat → List (S34) → List (S34) → Int → Int → Option (Bool)
  | 0, _, _, _, _ => none
  | k + 1, x3, x5, x26, x27 => if x27 < x26 then (if 0 ≤ x27 then (if x27 < (x5.length : Int) then (if x27 < (x3.length : Int) then ((laws_sameBools.f k ((rd_T34 x5 x27).f4) ((rd_T34 x3 x27).f4)).bind fun t379 => (if t379 = true then (laws_FnMarkWaits.l0 k x3 x5 x26 (wrap64 (x27 + 1))) else (some false))) else (none)) else (none)) else (none)) else ((laws_marksWork.f).bind fun t380 => (some t380))
def laws_FnMarkWaits.f (k : Nat) (l0 : List (S31)) : Option (Bool) := (laws_zzFits1.f k l0).bind fun t368 => (if t368 = true then ((spec_Marks.f l0).bind fun bt369 => (if bt369.2 = true then ((impl_RunMarks.f l0).bind fun t374 => (if (t374.length : Int) = (bt369.1.length : Int) then (laws_FnMarkWaits.l0 k bt369.1 t374 (t374.length : Int) 0) else (some false))) else ((laws_marksWork.f).bind fun t373 => (some t373)))) else (some true))
theorem laws_FnMarkWaits.mono_l : ∀ k, (∀ y0 y1 y2 y3, LeO (laws_FnMarkWaits.l0 k y0 y1 y2 y3) (laws_FnMarkWaits.l0 (k + 1) y0 y1 y2 y3))
  | 0 => fun _ _ _ _ r h => by simp [laws_FnMarkWaits.l0] at h
  | k + 1 => by
    have ih0 := laws_FnMarkWaits.mono_l k
    · intro y0 y1 y2 y3
      unfold laws_FnMarkWaits.l0
      repeat' first
      | (with_reducible exact ih0 _ _ _ _)
      | (with_reducible exact laws_sameBools.mono _ _ _)
      | (with_reducible exact laws_zzFits1.mono _ _)
      | (with_reducible exact LeO.refl _)
      | (with_reducible exact LeO.none _)
      | (with_reducible refine LeO.ite ?_ ?_)
      | (with_reducible refine LeO.bind ?_ (fun _ => ?_))
      | exact ih0 _ _ _ _
      | exact laws_sameBools.mono _ _ _
      | exact laws_zzFits1.mono _ _
      | exact LeO.none _
      | refine LeO.ite ?_ ?_
      | refine LeO.bind ?_ (fun _ => ?_)
theorem laws_FnMarkWaits.mono : ∀ a0 k, LeO (laws_FnMarkWaits.f k a0) (laws_FnMarkWaits.f (k + 1) a0) := by
  intro a0 k
  have ih0 := laws_FnMarkWaits.mono_l k
  unfold laws_FnMarkWaits.f
  repeat' first
      | (with_reducible exact ih0 _ _ _ _)
      | (with_reducible exact laws_sameBools.mono _ _ _)
      | (with_reducible exact laws_zzFits1.mono _ _)
      | (with_reducible exact LeO.refl _)
      | (with_reducible exact LeO.none _)
      | (with_reducible refine LeO.ite ?_ ?_)
      | (with_reducible refine LeO.bind ?_ (fun _ => ?_))
      | exact ih0 _ _ _ _
      | exact laws_sameBools.mono _ _ _
      | exact laws_zzFits1.mono _ _
      | exact LeO.none _
      | refine LeO.ite ?_ ?_
      | refine LeO.bind ?_ (fun _ => ?_)
set_option maxHeartbeats 8000000 in
set_option maxRecDepth 100000 in
theorem laws_FnMarkWaits.calls (k : Nat) (A0 : Option Addr) (c0 : Nat) (l0 : List (S31)) (r : Bool) (w : World) (hr0 : Kd.C k31 w A0 l0.length l0) (hc0 : l0.length ≤ c0) (h : laws_FnMarkWaits.f k l0 = some r) :
    Calls Try.prog 10 #[.slice A0 l0.length c0] w fun e w' => e = .returned (.bool r) ∧ Below w.heap.size w w' := by
  have HR0 := Aside0.mk hr0
  have HC0 := Aside0.mk hc0
  clear hr0 hc0
  have HB := Aside0.mk (Below.refl w.heap.size w)
  have H : ((laws_zzFits1.f k l0).bind fun t368 => (if t368 = true then ((spec_Marks.f l0).bind fun bt369 => (if bt369.2 = true then ((impl_RunMarks.f l0).bind fun t374 => (if (t374.length : Int) = (bt369.1.length : Int) then (laws_FnMarkWaits.l0 k bt369.1 t374 (t374.length : Int) 0) else (some false))) else ((laws_marksWork.f).bind fun t373 => (some t373)))) else (some true))) = some r := h
  clear h
  replace H := Option.bind_eq_some_iff.mp H
  obtain ⟨t368, A20, H⟩ := H
  replace H : (if t368 = true then ((spec_Marks.f l0).bind fun bt369 => (if bt369.2 = true then ((impl_RunMarks.f l0).bind fun t374 => (if (t374.length : Int) = (bt369.1.length : Int) then (laws_FnMarkWaits.l0 k bt369.1 t374 (t374.length : Int) 0) else (some false))) else ((laws_marksWork.f).bind fun t373 => (some t373)))) else (some true)) = some r := H
  have A2 := Aside0.mk A20
  clear A20
  by_cases c3 : t368 = true
  · subst c3
    have H1 : ((spec_Marks.f l0).bind fun bt369 => (if bt369.2 = true then ((impl_RunMarks.f l0).bind fun t374 => (if (t374.length : Int) = (bt369.1.length : Int) then (laws_FnMarkWaits.l0 k bt369.1 t374 (t374.length : Int) 0) else (some false))) else ((laws_marksWork.f).bind fun t373 => (some t373)))) = some r := by rw [if_pos rfl] at H; exact H
    clear H
    have H := H1
    clear H1
    replace H := Option.bind_eq_some_iff.mp H
    obtain ⟨⟨t369, t370⟩, A40, H⟩ := H
    replace H : (if t370 = true then ((impl_RunMarks.f l0).bind fun t374 => (if (t374.length : Int) = (t369.length : Int) then (laws_FnMarkWaits.l0 k t369 t374 (t374.length : Int) 0) else (some false))) else ((laws_marksWork.f).bind fun t373 => (some t373))) = some r := H
    have A4 := Aside0.mk A40
    clear A40
    by_cases c5 : t370 = true
    · subst c5
      have H1 : ((impl_RunMarks.f l0).bind fun t374 => (if (t374.length : Int) = (t369.length : Int) then (laws_FnMarkWaits.l0 k t369 t374 (t374.length : Int) 0) else (some false))) = some r := by rw [if_pos rfl] at H; exact H
      clear H
      have H := H1
      clear H1
      replace H := Option.bind_eq_some_iff.mp H
      obtain ⟨t374, A60, H⟩ := H
      replace H : (if (t374.length : Int) = (t369.length : Int) then (laws_FnMarkWaits.l0 k t369 t374 (t374.length : Int) 0) else (some false)) = some r := H
      have A6 := Aside0.mk A60
      clear A60
      by_cases c7 : (t374.length : Int) = (t369.length : Int)
      · rw [if_pos c7] at H
        have c7b0 : ((t374.length : Int) == (t369.length : Int)) = true := beq_iff_eq.mpr c7
        have c7b1 : ((t374.length : Int) != (t369.length : Int)) = false := bne_eq_false_iff_eq.mpr c7
        have c7b2 : (t374.length == t369.length) = true := by first | simpa using c7 | (simp at c7 ⊢; omega)
        clear c7
        have H' := Aside0.mk H
        clear H
        go_enter Try.func10, Try.ntmps10
        go_wp2_with (first | (go_at_call 11; (with_reducible refine (laws_zzFits1.calls k _ _ l0 true _ ?side1 ?side2 A2.out).mono ?_); (case side1 => repeat (first | exact HR0.out | (with_reducible refine Kd.C_alloc ?_ _) | (with_reducible refine Kd.C_drewN ?_ _) | (with_reducible refine Kd.C_drew ?_))); (case side2 => exact HC0.out); rintro e w8 ⟨rfl, hb⟩; have n0_ := Aside0.mk (below_step (by repeat (first | (with_reducible first | exact HB.out | apply below_alloc | apply pw_below_drewN | apply below_drew1) | exact HB.out)) hb); clear HB; have HB := n0_; clear n0_; (try clear hb); (try clear hb2); (try clear hk); (try clear hi)) | (go_at_call 12; (with_reducible refine (spec_Marks.calls _ _ l0 t369 true _ ?side1 ?side2 A4.out).mono ?_); (case side1 => repeat (first | exact (Kd.C_below HR0.out HB.out) | (with_reducible refine Kd.C_alloc ?_ _) | (with_reducible refine Kd.C_drewN ?_ _) | (with_reducible refine Kd.C_drew ?_))); (case side2 => exact HC0.out); rintro e w9 ⟨v371, rfl, ho0, hb⟩; have n0_ := Aside0.mk (Kd.S_lower ho0 (below_size (by repeat (first | (with_reducible first | exact HB.out | apply below_alloc | apply pw_below_drewN | apply below_drew1) | exact HB.out)))); have n1_ := Aside0.mk (below_step (by repeat (first | (with_reducible first | exact HB.out | apply below_alloc | apply pw_below_drewN | apply below_drew1) | exact HB.out)) hb); clear HB; have HO372 := n0_; have HB := n1_; clear n0_ n1_; (try clear hb); (try clear hb2); (try clear hk); (try clear hi); (try clear ho0)) | (go_at_call 14; (with_reducible refine (impl_RunMarks.calls _ _ l0 t374 _ ?side1 ?side2 A6.out).mono ?_); (case side1 => repeat (first | exact (Kd.C_below HR0.out HB.out) | (with_reducible refine Kd.C_alloc ?_ _) | (with_reducible refine Kd.C_drewN ?_ _) | (with_reducible refine Kd.C_drew ?_))); (case side2 => exact HC0.out); rintro e w10 ⟨v375, rfl, ho0, hb⟩; have n0_ := Aside0.mk (Kd.S_elder' (by (with_reducible repeat (first | apply Kd.S_alloc | apply Kd.S_drewN | apply Kd.S_drew)); exact HO372.out) (Kd.S_base ho0) hb); have n1_ := Aside0.mk (Kd.S_lower (Kd.S_new' ho0 (Kd.S_lt (by (with_reducible repeat (first | apply Kd.S_alloc | apply Kd.S_drewN | apply Kd.S_drew)); exact HO372.out))) (below_size (by repeat (first | (with_reducible first | exact HB.out | apply below_alloc | apply pw_below_drewN | apply below_drew1) | exact HB.out)))); have n2_ := Aside0.mk (below_step (by repeat (first | (with_reducible first | exact HB.out | apply below_alloc | apply pw_below_drewN | apply below_drew1) | exact HB.out)) hb); clear HO372; clear HB; have HO372 := n0_; have HO376 := n1_; have HB := n2_; clear n0_ n1_ n2_; (try clear hb); (try clear hb2); (try clear hk); (try clear hi); (try clear ho0); obtain ⟨Ao11, co11, eo11⟩ := Kd.S_slice HO376.out; subst eo11; obtain ⟨Ao12, co12, eo12⟩ := Kd.S_slice HO372.out; subst eo12))
        repeat (go_quiet (first | (go_at_call 11; (with_reducible refine (laws_zzFits1.calls k _ _ l0 true _ ?side1 ?side2 A2.out).mono ?_); (case side1 => repeat (first | exact HR0.out | (with_reducible refine Kd.C_alloc ?_ _) | (with_reducible refine Kd.C_drewN ?_ _) | (with_reducible refine Kd.C_drew ?_))); (case side2 => exact HC0.out); rintro e w8 ⟨rfl, hb⟩; have n0_ := Aside0.mk (below_step (by repeat (first | (with_reducible first | exact HB.out | apply below_alloc | apply pw_below_drewN | apply below_drew1) | exact HB.out)) hb); clear HB; have HB := n0_; clear n0_; (try clear hb); (try clear hb2); (try clear hk); (try clear hi)) | (go_at_call 12; (with_reducible refine (spec_Marks.calls _ _ l0 t369 true _ ?side1 ?side2 A4.out).mono ?_); (case side1 => repeat (first | exact (Kd.C_below HR0.out HB.out) | (with_reducible refine Kd.C_alloc ?_ _) | (with_reducible refine Kd.C_drewN ?_ _) | (with_reducible refine Kd.C_drew ?_))); (case side2 => exact HC0.out); rintro e w9 ⟨v371, rfl, ho0, hb⟩; have n0_ := Aside0.mk (Kd.S_lower ho0 (below_size (by repeat (first | (with_reducible first | exact HB.out | apply below_alloc | apply pw_below_drewN | apply below_drew1) | exact HB.out)))); have n1_ := Aside0.mk (below_step (by repeat (first | (with_reducible first | exact HB.out | apply below_alloc | apply pw_below_drewN | apply below_drew1) | exact HB.out)) hb); clear HB; have HO372 := n0_; have HB := n1_; clear n0_ n1_; (try clear hb); (try clear hb2); (try clear hk); (try clear hi); (try clear ho0)) | (go_at_call 14; (with_reducible refine (impl_RunMarks.calls _ _ l0 t374 _ ?side1 ?side2 A6.out).mono ?_); (case side1 => repeat (first | exact (Kd.C_below HR0.out HB.out) | (with_reducible refine Kd.C_alloc ?_ _) | (with_reducible refine Kd.C_drewN ?_ _) | (with_reducible refine Kd.C_drew ?_))); (case side2 => exact HC0.out); rintro e w10 ⟨v375, rfl, ho0, hb⟩; have n0_ := Aside0.mk (Kd.S_elder' (by (with_reducible repeat (first | apply Kd.S_alloc | apply Kd.S_drewN | apply Kd.S_drew)); exact HO372.out) (Kd.S_base ho0) hb); have n1_ := Aside0.mk (Kd.S_lower (Kd.S_new' ho0 (Kd.S_lt (by (with_reducible repeat (first | apply Kd.S_alloc | apply Kd.S_drewN | apply Kd.S_drew)); exact HO372.out))) (below_size (by repeat (first | (with_reducible first | exact HB.out | apply below_alloc | apply pw_below_drewN | apply below_drew1) | exact HB.out)))); have n2_ := Aside0.mk (below_step (by repeat (first | (with_reducible first | exact HB.out | apply below_alloc | apply pw_below_drewN | apply below_drew1) | exact HB.out)) hb); clear HO372; clear HB; have HO372 := n0_; have HO376 := n1_; have HB := n2_; clear n0_ n1_ n2_; (try clear hb); (try clear hb2); (try clear hk); (try clear hi); (try clear ho0); obtain ⟨Ao11, co11, eo11⟩ := Kd.S_slice HO376.out; subst eo11; obtain ⟨Ao12, co12, eo12⟩ := Kd.S_slice HO372.out; subst eo12)); try go_wp2_with (first | (go_at_call 11; (with_reducible refine (laws_zzFits1.calls k _ _ l0 true _ ?side1 ?side2 A2.out).mono ?_); (case side1 => repeat (first | exact HR0.out | (with_reducible refine Kd.C_alloc ?_ _) | (with_reducible refine Kd.C_drewN ?_ _) | (with_reducible refine Kd.C_drew ?_))); (case side2 => exact HC0.out); rintro e w8 ⟨rfl, hb⟩; have n0_ := Aside0.mk (below_step (by repeat (first | (with_reducible first | exact HB.out | apply below_alloc | apply pw_below_drewN | apply below_drew1) | exact HB.out)) hb); clear HB; have HB := n0_; clear n0_; (try clear hb); (try clear hb2); (try clear hk); (try clear hi)) | (go_at_call 12; (with_reducible refine (spec_Marks.calls _ _ l0 t369 true _ ?side1 ?side2 A4.out).mono ?_); (case side1 => repeat (first | exact (Kd.C_below HR0.out HB.out) | (with_reducible refine Kd.C_alloc ?_ _) | (with_reducible refine Kd.C_drewN ?_ _) | (with_reducible refine Kd.C_drew ?_))); (case side2 => exact HC0.out); rintro e w9 ⟨v371, rfl, ho0, hb⟩; have n0_ := Aside0.mk (Kd.S_lower ho0 (below_size (by repeat (first | (with_reducible first | exact HB.out | apply below_alloc | apply pw_below_drewN | apply below_drew1) | exact HB.out)))); have n1_ := Aside0.mk (below_step (by repeat (first | (with_reducible first | exact HB.out | apply below_alloc | apply pw_below_drewN | apply below_drew1) | exact HB.out)) hb); clear HB; have HO372 := n0_; have HB := n1_; clear n0_ n1_; (try clear hb); (try clear hb2); (try clear hk); (try clear hi); (try clear ho0)) | (go_at_call 14; (with_reducible refine (impl_RunMarks.calls _ _ l0 t374 _ ?side1 ?side2 A6.out).mono ?_); (case side1 => repeat (first | exact (Kd.C_below HR0.out HB.out) | (with_reducible refine Kd.C_alloc ?_ _) | (with_reducible refine Kd.C_drewN ?_ _) | (with_reducible refine Kd.C_drew ?_))); (case side2 => exact HC0.out); rintro e w10 ⟨v375, rfl, ho0, hb⟩; have n0_ := Aside0.mk (Kd.S_elder' (by (with_reducible repeat (first | apply Kd.S_alloc | apply Kd.S_drewN | apply Kd.S_drew)); exact HO372.out) (Kd.S_base ho0) hb); have n1_ := Aside0.mk (Kd.S_lower (Kd.S_new' ho0 (Kd.S_lt (by (with_reducible repeat (first | apply Kd.S_alloc | apply Kd.S_drewN | apply Kd.S_drew)); exact HO372.out))) (below_size (by repeat (first | (with_reducible first | exact HB.out | apply below_alloc | apply pw_below_drewN | apply below_drew1) | exact HB.out)))); have n2_ := Aside0.mk (below_step (by repeat (first | (with_reducible first | exact HB.out | apply below_alloc | apply pw_below_drewN | apply below_drew1) | exact HB.out)) hb); clear HO372; clear HB; have HO372 := n0_; have HO376 := n1_; have HB := n2_; clear n0_ n1_ n2_; (try clear hb); (try clear hb2); (try clear hk); (try clear hi); (try clear ho0); obtain ⟨Ao11, co11, eo11⟩ := Kd.S_slice HO376.out; subst eo11; obtain ⟨Ao12, co12, eo12⟩ := Kd.S_slice HO372.out; subst eo12)))
        go_loopg [27] k (fun kq v27 w' => ∃ (x27_1 : Int), v27 = .int .i64 x27_1 ∧ Aside0 (laws_FnMarkWaits.l0 kq t369 t374 (t374.length : Int) x27_1 = some r) ∧ Aside0 (kq ≤ k) ∧ Aside0 (Kd.S k34 34 w' w.heap.size (fun k_ => some k_ ≠ ((.slice Ao11 t374.length co11) : Value).ownBlock) (.slice Ao12 t369.length co12) t369) ∧ Aside0 (Kd.S k34 34 w' w.heap.size (fun k_ => some k_ ≠ ((.slice Ao12 t369.length co12) : Value).ownBlock) (.slice Ao11 t374.length co11) t374) ∧ Aside0 (Below w.heap.size w w'))
        case atStart => exact ⟨(0), (by first | rfl | (simp; done) | (simp [*]; done)), H', ⟨Nat.le_refl _⟩, ⟨by (with_reducible repeat (first | apply Kd.S_alloc | apply Kd.S_drewN | apply Kd.S_drew)); exact Kd.S_mono HO372.out (fun _ hk => hk.2)⟩, ⟨by (with_reducible repeat (first | apply Kd.S_alloc | apply Kd.S_drewN | apply Kd.S_drew)); exact Kd.S_mono HO376.out (fun _ hk => hk.2)⟩, ⟨by repeat (first | (with_reducible first | exact HB.out | apply below_alloc | apply pw_below_drewN | apply below_drew1) | exact HB.out)⟩⟩
        case round =>
          clear H'
          try clear c1
          try clear p2
          try clear c3
          try clear c5
          try clear c7
          try clear c7b0
          try clear c7b1
          try clear c7b2
          try clear c10
          obtain ⟨x27_1, rfl, HA, HK1, HO_3, HO_5, HB⟩ := hrel
          cases gk with
          | zero => exact absurd HA.out (by simp [laws_FnMarkWaits.l0])
          | succ k1 =>
            have H := HA.out
            clear HA
            simp only [laws_FnMarkWaits.l0] at H
            by_cases c13 : x27_1 < (t374.length : Int)
            · rw [if_pos c13] at H
              have c13b0 : decide (x27_1 < (t374.length : Int)) = true := decide_eq_true c13
              clear c13
              by_cases c14 : 0 ≤ x27_1
              · rw [if_pos c14] at H
                have c14b0 : decide (0 ≤ x27_1) = true := decide_eq_true c14
                clear c14
                by_cases c15 : x27_1 < (t374.length : Int)
                · rw [if_pos c15] at H
                  have c15b0 : decide (x27_1 < (t374.length : Int)) = true := decide_eq_true c15
                  clear c15
                  by_cases c16 : x27_1 < (t369.length : Int)
                  · rw [if_pos c16] at H
                    have c16b0 : decide (x27_1 < (t369.length : Int)) = true := decide_eq_true c16
                    clear c16
                    replace H := Option.bind_eq_some_iff.mp H
                    obtain ⟨t379, A170, H⟩ := H
                    replace H : (if t379 = true then (laws_FnMarkWaits.l0 k1 t369 t374 (t374.length : Int) (wrap64 (x27_1 + 1))) else (some false)) = some r := H
                    have A17 := Aside0.mk A170
                    clear A170
                    by_cases c18 : t379 = true
                    · subst c18
                      have H1 : (laws_FnMarkWaits.l0 k1 t369 t374 (t374.length : Int) (wrap64 (x27_1 + 1))) = some r := by rw [if_pos rfl] at H; exact H
                      clear H
                      have H := H1
                      clear H1
                      have H' := Aside0.mk H
                      clear H
                      have p377 : 0 ≤ (x27_1 : Int) := of_decide_eq_true (by first | (with_reducible assumption) | assumption)
                      have q377 : x27_1 < (t374.length : Int) := of_decide_eq_true (by first | (with_reducible assumption) | assumption)
                      obtain ⟨ad377, A377_4, c377_4, e377, hx377_0, hx377_1, hx377_2, hx377_3, hx377_4, hl377_4, hi377_4⟩ := at_T34 (Kd.S_reads' HO_5.out).2.2 x27_1 p377 q377
                      cases e377
                      obtain ⟨ce377, hce377, hMe377, hcc377⟩ := Kd.S_get HO_5.out z34 x27_1 p377 (by first | exact q377 | exact of_decide_eq_true (by first | (with_reducible assumption) | assumption) | (have e_ := (Kd.S_reads' HO_5.out).1; omega))
                      obtain ⟨ve377_4, rfl, ge377_4⟩ := k34_openM hMe377
                      have hv377_4 := hcc377 4 _ rfl
                      rw [add_field _ _ 4 (by omega)] at hv377_4
                      replace hv377_4 := Option.some.inj (hv377_4.symm.trans hx377_4)
                      rw [hv377_4] at ge377_4
                      have HL377_4 := Aside0.mk (show Kd.R Kd.bool 4 _ _ _ _ ((rd_T34 t374 x27_1).f4) from ge377_4)
                      clear hv377_4 ge377_4
                      clear hcc377 hce377
                      have HR377_4 := Aside0.mk hi377_4
                      have HC377_4 := Aside0.mk hl377_4
                      clear hi377_4 hl377_4
                      replace p377 := eq_true p377
                      replace q377 := eq_true q377
                      have p378 : 0 ≤ (x27_1 : Int) := of_decide_eq_true (by first | (with_reducible assumption) | assumption)
                      have q378 : x27_1 < (t369.length : Int) := of_decide_eq_true (by first | (with_reducible assumption) | assumption)
                      obtain ⟨ad378, A378_4, c378_4, e378, hx378_0, hx378_1, hx378_2, hx378_3, hx378_4, hl378_4, hi378_4⟩ := at_T34 (Kd.S_reads' HO_3.out).2.2 x27_1 p378 q378
                      cases e378
                      obtain ⟨ce378, hce378, hMe378, hcc378⟩ := Kd.S_get HO_3.out z34 x27_1 p378 (by first | exact q378 | exact of_decide_eq_true (by first | (with_reducible assumption) | assumption) | (have e_ := (Kd.S_reads' HO_3.out).1; omega))
                      obtain ⟨ve378_4, rfl, ge378_4⟩ := k34_openM hMe378
                      have hv378_4 := hcc378 4 _ rfl
                      rw [add_field _ _ 4 (by omega)] at hv378_4
                      replace hv378_4 := Option.some.inj (hv378_4.symm.trans hx378_4)
                      rw [hv378_4] at ge378_4
                      have HL378_4 := Aside0.mk (show Kd.R Kd.bool 4 _ _ _ _ ((rd_T34 t369 x27_1).f4) from ge378_4)
                      clear hv378_4 ge378_4
                      clear hcc378 hce378
                      have HR378_4 := Aside0.mk hi378_4
                      have HC378_4 := Aside0.mk hl378_4
                      clear hi378_4 hl378_4
                      replace p378 := eq_true p378
                      replace q378 := eq_true q378
                      go_wp2_with (first | (go_at_call 16; (with_reducible refine (laws_sameBools.calls k1 _ _ ((rd_T34 t374 x27_1).f4) _ _ ((rd_T34 t369 x27_1).f4) true _ ?side1 ?side2 ?side3 ?side4 A17.out).mono ?_); (case side1 => repeat (first | exact (by repeat (first | (with_reducible exact HR377_4.out) | (with_reducible refine Kd.C_alloc ?_ _) | (with_reducible refine Kd.C_drewN ?_ _) | (with_reducible refine Kd.C_drew ?_) | exact HR377_4.out)) | (with_reducible refine Kd.C_alloc ?_ _) | (with_reducible refine Kd.C_drewN ?_ _) | (with_reducible refine Kd.C_drew ?_))); (case side2 => exact HC377_4.out); (case side3 => repeat (first | exact (by repeat (first | (with_reducible exact HR378_4.out) | (with_reducible refine Kd.C_alloc ?_ _) | (with_reducible refine Kd.C_drewN ?_ _) | (with_reducible refine Kd.C_drew ?_) | exact HR378_4.out)) | (with_reducible refine Kd.C_alloc ?_ _) | (with_reducible refine Kd.C_drewN ?_ _) | (with_reducible refine Kd.C_drew ?_))); (case side4 => exact HC378_4.out); rintro e w' ⟨rfl, ⟨nd, rfl⟩⟩; (try first | exact ⟨rfl, _, World.drewN_drewN _ _ _⟩ | exact ⟨rfl, _, Eq.trans (World.drewN_drewN _ _ _) (congrArg (World.drewN _) (Nat.add_assoc _ _ _))⟩)))
                      repeat (go_quiet (first | (go_at_call 16; (with_reducible refine (laws_sameBools.calls k1 _ _ ((rd_T34 t374 x27_1).f4) _ _ ((rd_T34 t369 x27_1).f4) true _ ?side1 ?side2 ?side3 ?side4 A17.out).mono ?_); (case side1 => repeat (first | exact (by repeat (first | (with_reducible exact HR377_4.out) | (with_reducible refine Kd.C_alloc ?_ _) | (with_reducible refine Kd.C_drewN ?_ _) | (with_reducible refine Kd.C_drew ?_) | exact HR377_4.out)) | (with_reducible refine Kd.C_alloc ?_ _) | (with_reducible refine Kd.C_drewN ?_ _) | (with_reducible refine Kd.C_drew ?_))); (case side2 => exact HC377_4.out); (case side3 => repeat (first | exact (by repeat (first | (with_reducible exact HR378_4.out) | (with_reducible refine Kd.C_alloc ?_ _) | (with_reducible refine Kd.C_drewN ?_ _) | (with_reducible refine Kd.C_drew ?_) | exact HR378_4.out)) | (with_reducible refine Kd.C_alloc ?_ _) | (with_reducible refine Kd.C_drewN ?_ _) | (with_reducible refine Kd.C_drew ?_))); (case side4 => exact HC378_4.out); rintro e w' ⟨rfl, ⟨nd, rfl⟩⟩; (try first | exact ⟨rfl, _, World.drewN_drewN _ _ _⟩ | exact ⟨rfl, _, Eq.trans (World.drewN_drewN _ _ _) (congrArg (World.drewN _) (Nat.add_assoc _ _ _))⟩))); try go_wp2_with (first | (go_at_call 16; (with_reducible refine (laws_sameBools.calls k1 _ _ ((rd_T34 t374 x27_1).f4) _ _ ((rd_T34 t369 x27_1).f4) true _ ?side1 ?side2 ?side3 ?side4 A17.out).mono ?_); (case side1 => repeat (first | exact (by repeat (first | (with_reducible exact HR377_4.out) | (with_reducible refine Kd.C_alloc ?_ _) | (with_reducible refine Kd.C_drewN ?_ _) | (with_reducible refine Kd.C_drew ?_) | exact HR377_4.out)) | (with_reducible refine Kd.C_alloc ?_ _) | (with_reducible refine Kd.C_drewN ?_ _) | (with_reducible refine Kd.C_drew ?_))); (case side2 => exact HC377_4.out); (case side3 => repeat (first | exact (by repeat (first | (with_reducible exact HR378_4.out) | (with_reducible refine Kd.C_alloc ?_ _) | (with_reducible refine Kd.C_drewN ?_ _) | (with_reducible refine Kd.C_drew ?_) | exact HR378_4.out)) | (with_reducible refine Kd.C_alloc ?_ _) | (with_reducible refine Kd.C_drewN ?_ _) | (with_reducible refine Kd.C_drew ?_))); (case side4 => exact HC378_4.out); rintro e w' ⟨rfl, ⟨nd, rfl⟩⟩; (try first | exact ⟨rfl, _, World.drewN_drewN _ _ _⟩ | exact ⟨rfl, _, Eq.trans (World.drewN_drewN _ _ _) (congrArg (World.drewN _) (Nat.add_assoc _ _ _))⟩))))
                      go_roundg k1
                      case measure => have := HK1.out; omega
                      case rel => exact ⟨(wrap64 (x27_1 + 1)), (by first | rfl | (simp; done) | (simp [*]; done)), H', ⟨by have := HK1.out; omega⟩, ⟨by (with_reducible repeat (first | apply Kd.S_alloc | apply Kd.S_drewN | apply Kd.S_drew)); exact HO_3.out⟩, ⟨by (with_reducible repeat (first | apply Kd.S_alloc | apply Kd.S_drewN | apply Kd.S_drew)); exact HO_5.out⟩, ⟨by repeat (first | (with_reducible first | exact HB.out | apply below_alloc | apply pw_below_drewN | apply below_drew1) | exact HB.out)⟩⟩
                    · replace c18 := Bool.eq_false_iff.mpr c18
                      subst c18
                      have H1 : (some false) = some r := by rw [if_neg (show ¬ (false = true) by decide)] at H; exact H
                      clear H
                      have H := H1
                      clear H1
                      obtain rfl := Option.some.inj H
                      have p377 : 0 ≤ (x27_1 : Int) := of_decide_eq_true (by first | (with_reducible assumption) | assumption)
                      have q377 : x27_1 < (t374.length : Int) := of_decide_eq_true (by first | (with_reducible assumption) | assumption)
                      obtain ⟨ad377, A377_4, c377_4, e377, hx377_0, hx377_1, hx377_2, hx377_3, hx377_4, hl377_4, hi377_4⟩ := at_T34 (Kd.S_reads' HO_5.out).2.2 x27_1 p377 q377
                      cases e377
                      obtain ⟨ce377, hce377, hMe377, hcc377⟩ := Kd.S_get HO_5.out z34 x27_1 p377 (by first | exact q377 | exact of_decide_eq_true (by first | (with_reducible assumption) | assumption) | (have e_ := (Kd.S_reads' HO_5.out).1; omega))
                      obtain ⟨ve377_4, rfl, ge377_4⟩ := k34_openM hMe377
                      have hv377_4 := hcc377 4 _ rfl
                      rw [add_field _ _ 4 (by omega)] at hv377_4
                      replace hv377_4 := Option.some.inj (hv377_4.symm.trans hx377_4)
                      rw [hv377_4] at ge377_4
                      have HL377_4 := Aside0.mk (show Kd.R Kd.bool 4 _ _ _ _ ((rd_T34 t374 x27_1).f4) from ge377_4)
                      clear hv377_4 ge377_4
                      clear hcc377 hce377
                      have HR377_4 := Aside0.mk hi377_4
                      have HC377_4 := Aside0.mk hl377_4
                      clear hi377_4 hl377_4
                      replace p377 := eq_true p377
                      replace q377 := eq_true q377
                      have p378 : 0 ≤ (x27_1 : Int) := of_decide_eq_true (by first | (with_reducible assumption) | assumption)
                      have q378 : x27_1 < (t369.length : Int) := of_decide_eq_true (by first | (with_reducible assumption) | assumption)
                      obtain ⟨ad378, A378_4, c378_4, e378, hx378_0, hx378_1, hx378_2, hx378_3, hx378_4, hl378_4, hi378_4⟩ := at_T34 (Kd.S_reads' HO_3.out).2.2 x27_1 p378 q378
                      cases e378
                      obtain ⟨ce378, hce378, hMe378, hcc378⟩ := Kd.S_get HO_3.out z34 x27_1 p378 (by first | exact q378 | exact of_decide_eq_true (by first | (with_reducible assumption) | assumption) | (have e_ := (Kd.S_reads' HO_3.out).1; omega))
                      obtain ⟨ve378_4, rfl, ge378_4⟩ := k34_openM hMe378
                      have hv378_4 := hcc378 4 _ rfl
                      rw [add_field _ _ 4 (by omega)] at hv378_4
                      replace hv378_4 := Option.some.inj (hv378_4.symm.trans hx378_4)
                      rw [hv378_4] at ge378_4
                      have HL378_4 := Aside0.mk (show Kd.R Kd.bool 4 _ _ _ _ ((rd_T34 t369 x27_1).f4) from ge378_4)
                      clear hv378_4 ge378_4
                      clear hcc378 hce378
                      have HR378_4 := Aside0.mk hi378_4
                      have HC378_4 := Aside0.mk hl378_4
                      clear hi378_4 hl378_4
                      replace p378 := eq_true p378
                      replace q378 := eq_true q378
                      go_wp2_with (first | (go_at_call 16; (with_reducible refine (laws_sameBools.calls k1 _ _ ((rd_T34 t374 x27_1).f4) _ _ ((rd_T34 t369 x27_1).f4) false _ ?side1 ?side2 ?side3 ?side4 A17.out).mono ?_); (case side1 => repeat (first | exact (by repeat (first | (with_reducible exact HR377_4.out) | (with_reducible refine Kd.C_alloc ?_ _) | (with_reducible refine Kd.C_drewN ?_ _) | (with_reducible refine Kd.C_drew ?_) | exact HR377_4.out)) | (with_reducible refine Kd.C_alloc ?_ _) | (with_reducible refine Kd.C_drewN ?_ _) | (with_reducible refine Kd.C_drew ?_))); (case side2 => exact HC377_4.out); (case side3 => repeat (first | exact (by repeat (first | (with_reducible exact HR378_4.out) | (with_reducible refine Kd.C_alloc ?_ _) | (with_reducible refine Kd.C_drewN ?_ _) | (with_reducible refine Kd.C_drew ?_) | exact HR378_4.out)) | (with_reducible refine Kd.C_alloc ?_ _) | (with_reducible refine Kd.C_drewN ?_ _) | (with_reducible refine Kd.C_drew ?_))); (case side4 => exact HC378_4.out); rintro e w' ⟨rfl, ⟨nd, rfl⟩⟩; (try first | exact ⟨rfl, _, World.drewN_drewN _ _ _⟩ | exact ⟨rfl, _, Eq.trans (World.drewN_drewN _ _ _) (congrArg (World.drewN _) (Nat.add_assoc _ _ _))⟩)))
                      repeat (go_quiet (first | (go_at_call 16; (with_reducible refine (laws_sameBools.calls k1 _ _ ((rd_T34 t374 x27_1).f4) _ _ ((rd_T34 t369 x27_1).f4) false _ ?side1 ?side2 ?side3 ?side4 A17.out).mono ?_); (case side1 => repeat (first | exact (by repeat (first | (with_reducible exact HR377_4.out) | (with_reducible refine Kd.C_alloc ?_ _) | (with_reducible refine Kd.C_drewN ?_ _) | (with_reducible refine Kd.C_drew ?_) | exact HR377_4.out)) | (with_reducible refine Kd.C_alloc ?_ _) | (with_reducible refine Kd.C_drewN ?_ _) | (with_reducible refine Kd.C_drew ?_))); (case side2 => exact HC377_4.out); (case side3 => repeat (first | exact (by repeat (first | (with_reducible exact HR378_4.out) | (with_reducible refine Kd.C_alloc ?_ _) | (with_reducible refine Kd.C_drewN ?_ _) | (with_reducible refine Kd.C_drew ?_) | exact HR378_4.out)) | (with_reducible refine Kd.C_alloc ?_ _) | (with_reducible refine Kd.C_drewN ?_ _) | (with_reducible refine Kd.C_drew ?_))); (case side4 => exact HC378_4.out); rintro e w' ⟨rfl, ⟨nd, rfl⟩⟩; (try first | exact ⟨rfl, _, World.drewN_drewN _ _ _⟩ | exact ⟨rfl, _, Eq.trans (World.drewN_drewN _ _ _) (congrArg (World.drewN _) (Nat.add_assoc _ _ _))⟩))); try go_wp2_with (first | (go_at_call 16; (with_reducible refine (laws_sameBools.calls k1 _ _ ((rd_T34 t374 x27_1).f4) _ _ ((rd_T34 t369 x27_1).f4) false _ ?side1 ?side2 ?side3 ?side4 A17.out).mono ?_); (case side1 => repeat (first | exact (by repeat (first | (with_reducible exact HR377_4.out) | (with_reducible refine Kd.C_alloc ?_ _) | (with_reducible refine Kd.C_drewN ?_ _) | (with_reducible refine Kd.C_drew ?_) | exact HR377_4.out)) | (with_reducible refine Kd.C_alloc ?_ _) | (with_reducible refine Kd.C_drewN ?_ _) | (with_reducible refine Kd.C_drew ?_))); (case side2 => exact HC377_4.out); (case side3 => repeat (first | exact (by repeat (first | (with_reducible exact HR378_4.out) | (with_reducible refine Kd.C_alloc ?_ _) | (with_reducible refine Kd.C_drewN ?_ _) | (with_reducible refine Kd.C_drew ?_) | exact HR378_4.out)) | (with_reducible refine Kd.C_alloc ?_ _) | (with_reducible refine Kd.C_drewN ?_ _) | (with_reducible refine Kd.C_drew ?_))); (case side4 => exact HC378_4.out); rintro e w' ⟨rfl, ⟨nd, rfl⟩⟩; (try first | exact ⟨rfl, _, World.drewN_drewN _ _ _⟩ | exact ⟨rfl, _, Eq.trans (World.drewN_drewN _ _ _) (congrArg (World.drewN _) (Nat.add_assoc _ _ _))⟩))))
                      go_ret
                      exact ⟨by first | rfl | (simp [errW_none, errW_some] <;> rfl) | (simp [*, errW_none, errW_some] <;> rfl), by repeat (first | (with_reducible first | exact HB.out | apply below_alloc | apply pw_below_drewN | apply below_drew1) | exact HB.out)⟩
                  · rw [if_neg c16] at H
                    exact absurd H (by simp)
                · rw [if_neg c15] at H
                  exact absurd H (by simp)
              · rw [if_neg c14] at H
                exact absurd H (by simp)
            · rw [if_neg c13] at H
              have c13b0 : decide (x27_1 < (t374.length : Int)) = false := decide_eq_false c13
              clear c13
              replace H := Option.bind_eq_some_iff.mp H
              obtain ⟨t380, A190, H⟩ := H
              replace H : (some t380) = some r := H
              have A19 := Aside0.mk A190
              clear A190
              obtain rfl := Option.some.inj H
              go_wp2_with (first | (go_at_call 13; (with_reducible refine (laws_marksWork.calls  t380 _ A19.out).mono ?_); rintro e w20 ⟨rfl, hb⟩; have n0_ := Aside0.mk (Kd.S_below (by (with_reducible repeat (first | apply Kd.S_alloc | apply Kd.S_drewN | apply Kd.S_drew)); exact HO_3.out) hb); have n1_ := Aside0.mk (Kd.S_below (by (with_reducible repeat (first | apply Kd.S_alloc | apply Kd.S_drewN | apply Kd.S_drew)); exact HO_5.out) hb); have n2_ := Aside0.mk (below_step (by repeat (first | (with_reducible first | exact HB.out | apply below_alloc | apply pw_below_drewN | apply below_drew1) | exact HB.out)) hb); clear HO_3; clear HO_5; clear HB; have HO_3 := n0_; have HO_5 := n1_; have HB := n2_; clear n0_ n1_ n2_; (try clear hb); (try clear hb2); (try clear hk); (try clear hi)))
              repeat (go_quiet (first | (go_at_call 13; (with_reducible refine (laws_marksWork.calls  t380 _ A19.out).mono ?_); rintro e w20 ⟨rfl, hb⟩; have n0_ := Aside0.mk (Kd.S_below (by (with_reducible repeat (first | apply Kd.S_alloc | apply Kd.S_drewN | apply Kd.S_drew)); exact HO_3.out) hb); have n1_ := Aside0.mk (Kd.S_below (by (with_reducible repeat (first | apply Kd.S_alloc | apply Kd.S_drewN | apply Kd.S_drew)); exact HO_5.out) hb); have n2_ := Aside0.mk (below_step (by repeat (first | (with_reducible first | exact HB.out | apply below_alloc | apply pw_below_drewN | apply below_drew1) | exact HB.out)) hb); clear HO_3; clear HO_5; clear HB; have HO_3 := n0_; have HO_5 := n1_; have HB := n2_; clear n0_ n1_ n2_; (try clear hb); (try clear hb2); (try clear hk); (try clear hi))); try go_wp2_with (first | (go_at_call 13; (with_reducible refine (laws_marksWork.calls  t380 _ A19.out).mono ?_); rintro e w20 ⟨rfl, hb⟩; have n0_ := Aside0.mk (Kd.S_below (by (with_reducible repeat (first | apply Kd.S_alloc | apply Kd.S_drewN | apply Kd.S_drew)); exact HO_3.out) hb); have n1_ := Aside0.mk (Kd.S_below (by (with_reducible repeat (first | apply Kd.S_alloc | apply Kd.S_drewN | apply Kd.S_drew)); exact HO_5.out) hb); have n2_ := Aside0.mk (below_step (by repeat (first | (with_reducible first | exact HB.out | apply below_alloc | apply pw_below_drewN | apply below_drew1) | exact HB.out)) hb); clear HO_3; clear HO_5; clear HB; have HO_3 := n0_; have HO_5 := n1_; have HB := n2_; clear n0_ n1_ n2_; (try clear hb); (try clear hb2); (try clear hk); (try clear hi))))
              go_ret
              exact ⟨by first | rfl | (simp [errW_none, errW_some] <;> rfl) | (simp [*, errW_none, errW_some] <;> rfl), by repeat (first | (with_reducible first | exact HB.out | apply below_alloc | apply pw_below_drewN | apply below_drew1) | exact HB.out)⟩
      · rw [if_neg c7] at H
        have c7b0 : ((t374.length : Int) == (t369.length : Int)) = false := beq_eq_false_iff_ne.mpr c7
        have c7b1 : ((t374.length : Int) != (t369.length : Int)) = true := bne_iff_ne.mpr c7
        have c7b2 : (t374.length == t369.length) = false := by first | simpa using c7 | (simp at c7 ⊢; omega)
        obtain rfl := Option.some.inj H
        go_enter Try.func10, Try.ntmps10
        go_wp2_with (first | (go_at_call 11; (with_reducible refine (laws_zzFits1.calls k _ _ l0 true _ ?side1 ?side2 A2.out).mono ?_); (case side1 => repeat (first | exact HR0.out | (with_reducible refine Kd.C_alloc ?_ _) | (with_reducible refine Kd.C_drewN ?_ _) | (with_reducible refine Kd.C_drew ?_))); (case side2 => exact HC0.out); rintro e w21 ⟨rfl, hb⟩; have n0_ := Aside0.mk (below_step (by repeat (first | (with_reducible first | exact HB.out | apply below_alloc | apply pw_below_drewN | apply below_drew1) | exact HB.out)) hb); clear HB; have HB := n0_; clear n0_; (try clear hb); (try clear hb2); (try clear hk); (try clear hi)) | (go_at_call 12; (with_reducible refine (spec_Marks.calls _ _ l0 t369 true _ ?side1 ?side2 A4.out).mono ?_); (case side1 => repeat (first | exact (Kd.C_below HR0.out HB.out) | (with_reducible refine Kd.C_alloc ?_ _) | (with_reducible refine Kd.C_drewN ?_ _) | (with_reducible refine Kd.C_drew ?_))); (case side2 => exact HC0.out); rintro e w22 ⟨v371, rfl, ho0, hb⟩; have n0_ := Aside0.mk (Kd.S_lower ho0 (below_size (by repeat (first | (with_reducible first | exact HB.out | apply below_alloc | apply pw_below_drewN | apply below_drew1) | exact HB.out)))); have n1_ := Aside0.mk (below_step (by repeat (first | (with_reducible first | exact HB.out | apply below_alloc | apply pw_below_drewN | apply below_drew1) | exact HB.out)) hb); clear HB; have HO372 := n0_; have HB := n1_; clear n0_ n1_; (try clear hb); (try clear hb2); (try clear hk); (try clear hi); (try clear ho0)) | (go_at_call 14; (with_reducible refine (impl_RunMarks.calls _ _ l0 t374 _ ?side1 ?side2 A6.out).mono ?_); (case side1 => repeat (first | exact (Kd.C_below HR0.out HB.out) | (with_reducible refine Kd.C_alloc ?_ _) | (with_reducible refine Kd.C_drewN ?_ _) | (with_reducible refine Kd.C_drew ?_))); (case side2 => exact HC0.out); rintro e w23 ⟨v375, rfl, ho0, hb⟩; have n0_ := Aside0.mk (Kd.S_elder' (by (with_reducible repeat (first | apply Kd.S_alloc | apply Kd.S_drewN | apply Kd.S_drew)); exact HO372.out) (Kd.S_base ho0) hb); have n1_ := Aside0.mk (Kd.S_lower (Kd.S_new' ho0 (Kd.S_lt (by (with_reducible repeat (first | apply Kd.S_alloc | apply Kd.S_drewN | apply Kd.S_drew)); exact HO372.out))) (below_size (by repeat (first | (with_reducible first | exact HB.out | apply below_alloc | apply pw_below_drewN | apply below_drew1) | exact HB.out)))); have n2_ := Aside0.mk (below_step (by repeat (first | (with_reducible first | exact HB.out | apply below_alloc | apply pw_below_drewN | apply below_drew1) | exact HB.out)) hb); clear HO372; clear HB; have HO372 := n0_; have HO376 := n1_; have HB := n2_; clear n0_ n1_ n2_; (try clear hb); (try clear hb2); (try clear hk); (try clear hi); (try clear ho0); obtain ⟨Ao24, co24, eo24⟩ := Kd.S_slice HO376.out; subst eo24; obtain ⟨Ao25, co25, eo25⟩ := Kd.S_slice HO372.out; subst eo25))
        repeat (go_quiet (first | (go_at_call 11; (with_reducible refine (laws_zzFits1.calls k _ _ l0 true _ ?side1 ?side2 A2.out).mono ?_); (case side1 => repeat (first | exact HR0.out | (with_reducible refine Kd.C_alloc ?_ _) | (with_reducible refine Kd.C_drewN ?_ _) | (with_reducible refine Kd.C_drew ?_))); (case side2 => exact HC0.out); rintro e w21 ⟨rfl, hb⟩; have n0_ := Aside0.mk (below_step (by repeat (first | (with_reducible first | exact HB.out | apply below_alloc | apply pw_below_drewN | apply below_drew1) | exact HB.out)) hb); clear HB; have HB := n0_; clear n0_; (try clear hb); (try clear hb2); (try clear hk); (try clear hi)) | (go_at_call 12; (with_reducible refine (spec_Marks.calls _ _ l0 t369 true _ ?side1 ?side2 A4.out).mono ?_); (case side1 => repeat (first | exact (Kd.C_below HR0.out HB.out) | (with_reducible refine Kd.C_alloc ?_ _) | (with_reducible refine Kd.C_drewN ?_ _) | (with_reducible refine Kd.C_drew ?_))); (case side2 => exact HC0.out); rintro e w22 ⟨v371, rfl, ho0, hb⟩; have n0_ := Aside0.mk (Kd.S_lower ho0 (below_size (by repeat (first | (with_reducible first | exact HB.out | apply below_alloc | apply pw_below_drewN | apply below_drew1) | exact HB.out)))); have n1_ := Aside0.mk (below_step (by repeat (first | (with_reducible first | exact HB.out | apply below_alloc | apply pw_below_drewN | apply below_drew1) | exact HB.out)) hb); clear HB; have HO372 := n0_; have HB := n1_; clear n0_ n1_; (try clear hb); (try clear hb2); (try clear hk); (try clear hi); (try clear ho0)) | (go_at_call 14; (with_reducible refine (impl_RunMarks.calls _ _ l0 t374 _ ?side1 ?side2 A6.out).mono ?_); (case side1 => repeat (first | exact (Kd.C_below HR0.out HB.out) | (with_reducible refine Kd.C_alloc ?_ _) | (with_reducible refine Kd.C_drewN ?_ _) | (with_reducible refine Kd.C_drew ?_))); (case side2 => exact HC0.out); rintro e w23 ⟨v375, rfl, ho0, hb⟩; have n0_ := Aside0.mk (Kd.S_elder' (by (with_reducible repeat (first | apply Kd.S_alloc | apply Kd.S_drewN | apply Kd.S_drew)); exact HO372.out) (Kd.S_base ho0) hb); have n1_ := Aside0.mk (Kd.S_lower (Kd.S_new' ho0 (Kd.S_lt (by (with_reducible repeat (first | apply Kd.S_alloc | apply Kd.S_drewN | apply Kd.S_drew)); exact HO372.out))) (below_size (by repeat (first | (with_reducible first | exact HB.out | apply below_alloc | apply pw_below_drewN | apply below_drew1) | exact HB.out)))); have n2_ := Aside0.mk (below_step (by repeat (first | (with_reducible first | exact HB.out | apply below_alloc | apply pw_below_drewN | apply below_drew1) | exact HB.out)) hb); clear HO372; clear HB; have HO372 := n0_; have HO376 := n1_; have HB := n2_; clear n0_ n1_ n2_; (try clear hb); (try clear hb2); (try clear hk); (try clear hi); (try clear ho0); obtain ⟨Ao24, co24, eo24⟩ := Kd.S_slice HO376.out; subst eo24; obtain ⟨Ao25, co25, eo25⟩ := Kd.S_slice HO372.out; subst eo25)); try go_wp2_with (first | (go_at_call 11; (with_reducible refine (laws_zzFits1.calls k _ _ l0 true _ ?side1 ?side2 A2.out).mono ?_); (case side1 => repeat (first | exact HR0.out | (with_reducible refine Kd.C_alloc ?_ _) | (with_reducible refine Kd.C_drewN ?_ _) | (with_reducible refine Kd.C_drew ?_))); (case side2 => exact HC0.out); rintro e w21 ⟨rfl, hb⟩; have n0_ := Aside0.mk (below_step (by repeat (first | (with_reducible first | exact HB.out | apply below_alloc | apply pw_below_drewN | apply below_drew1) | exact HB.out)) hb); clear HB; have HB := n0_; clear n0_; (try clear hb); (try clear hb2); (try clear hk); (try clear hi)) | (go_at_call 12; (with_reducible refine (spec_Marks.calls _ _ l0 t369 true _ ?side1 ?side2 A4.out).mono ?_); (case side1 => repeat (first | exact (Kd.C_below HR0.out HB.out) | (with_reducible refine Kd.C_alloc ?_ _) | (with_reducible refine Kd.C_drewN ?_ _) | (with_reducible refine Kd.C_drew ?_))); (case side2 => exact HC0.out); rintro e w22 ⟨v371, rfl, ho0, hb⟩; have n0_ := Aside0.mk (Kd.S_lower ho0 (below_size (by repeat (first | (with_reducible first | exact HB.out | apply below_alloc | apply pw_below_drewN | apply below_drew1) | exact HB.out)))); have n1_ := Aside0.mk (below_step (by repeat (first | (with_reducible first | exact HB.out | apply below_alloc | apply pw_below_drewN | apply below_drew1) | exact HB.out)) hb); clear HB; have HO372 := n0_; have HB := n1_; clear n0_ n1_; (try clear hb); (try clear hb2); (try clear hk); (try clear hi); (try clear ho0)) | (go_at_call 14; (with_reducible refine (impl_RunMarks.calls _ _ l0 t374 _ ?side1 ?side2 A6.out).mono ?_); (case side1 => repeat (first | exact (Kd.C_below HR0.out HB.out) | (with_reducible refine Kd.C_alloc ?_ _) | (with_reducible refine Kd.C_drewN ?_ _) | (with_reducible refine Kd.C_drew ?_))); (case side2 => exact HC0.out); rintro e w23 ⟨v375, rfl, ho0, hb⟩; have n0_ := Aside0.mk (Kd.S_elder' (by (with_reducible repeat (first | apply Kd.S_alloc | apply Kd.S_drewN | apply Kd.S_drew)); exact HO372.out) (Kd.S_base ho0) hb); have n1_ := Aside0.mk (Kd.S_lower (Kd.S_new' ho0 (Kd.S_lt (by (with_reducible repeat (first | apply Kd.S_alloc | apply Kd.S_drewN | apply Kd.S_drew)); exact HO372.out))) (below_size (by repeat (first | (with_reducible first | exact HB.out | apply below_alloc | apply pw_below_drewN | apply below_drew1) | exact HB.out)))); have n2_ := Aside0.mk (below_step (by repeat (first | (with_reducible first | exact HB.out | apply below_alloc | apply pw_below_drewN | apply below_drew1) | exact HB.out)) hb); clear HO372; clear HB; have HO372 := n0_; have HO376 := n1_; have HB := n2_; clear n0_ n1_ n2_; (try clear hb); (try clear hb2); (try clear hk); (try clear hi); (try clear ho0); obtain ⟨Ao24, co24, eo24⟩ := Kd.S_slice HO376.out; subst eo24; obtain ⟨Ao25, co25, eo25⟩ := Kd.S_slice HO372.out; subst eo25)))
        go_ret
        exact ⟨by first | rfl | (simp [errW_none, errW_some] <;> rfl) | (simp [*, errW_none, errW_some] <;> rfl), by repeat (first | (with_reducible first | exact HB.out | apply below_alloc | apply pw_below_drewN | apply below_drew1) | exact HB.out)⟩
    · replace c5 := Bool.eq_false_iff.mpr c5
      subst c5
      have H1 : ((laws_marksWork.f).bind fun t373 => (some t373)) = some r := by rw [if_neg (show ¬ (false = true) by decide)] at H; exact H
      clear H
      have H := H1
      clear H1
      replace H := Option.bind_eq_some_iff.mp H
      obtain ⟨t373, A260, H⟩ := H
      replace H : (some t373) = some r := H
      have A26 := Aside0.mk A260
      clear A260
      obtain rfl := Option.some.inj H
      go_enter Try.func10, Try.ntmps10
      go_wp2_with (first | (go_at_call 11; (with_reducible refine (laws_zzFits1.calls k _ _ l0 true _ ?side1 ?side2 A2.out).mono ?_); (case side1 => repeat (first | exact HR0.out | (with_reducible refine Kd.C_alloc ?_ _) | (with_reducible refine Kd.C_drewN ?_ _) | (with_reducible refine Kd.C_drew ?_))); (case side2 => exact HC0.out); rintro e w27 ⟨rfl, hb⟩; have n0_ := Aside0.mk (below_step (by repeat (first | (with_reducible first | exact HB.out | apply below_alloc | apply pw_below_drewN | apply below_drew1) | exact HB.out)) hb); clear HB; have HB := n0_; clear n0_; (try clear hb); (try clear hb2); (try clear hk); (try clear hi)) | (go_at_call 12; (with_reducible refine (spec_Marks.calls _ _ l0 t369 false _ ?side1 ?side2 A4.out).mono ?_); (case side1 => repeat (first | exact (Kd.C_below HR0.out HB.out) | (with_reducible refine Kd.C_alloc ?_ _) | (with_reducible refine Kd.C_drewN ?_ _) | (with_reducible refine Kd.C_drew ?_))); (case side2 => exact HC0.out); rintro e w28 ⟨v371, rfl, ho0, hb⟩; have n0_ := Aside0.mk (Kd.S_lower ho0 (below_size (by repeat (first | (with_reducible first | exact HB.out | apply below_alloc | apply pw_below_drewN | apply below_drew1) | exact HB.out)))); have n1_ := Aside0.mk (below_step (by repeat (first | (with_reducible first | exact HB.out | apply below_alloc | apply pw_below_drewN | apply below_drew1) | exact HB.out)) hb); clear HB; have HO372 := n0_; have HB := n1_; clear n0_ n1_; (try clear hb); (try clear hb2); (try clear hk); (try clear hi); (try clear ho0)) | (go_at_call 13; (with_reducible refine (laws_marksWork.calls  t373 _ A26.out).mono ?_); rintro e w29 ⟨rfl, hb⟩; have n0_ := Aside0.mk (Kd.S_below (by (with_reducible repeat (first | apply Kd.S_alloc | apply Kd.S_drewN | apply Kd.S_drew)); exact HO372.out) hb); have n1_ := Aside0.mk (below_step (by repeat (first | (with_reducible first | exact HB.out | apply below_alloc | apply pw_below_drewN | apply below_drew1) | exact HB.out)) hb); clear HO372; clear HB; have HO372 := n0_; have HB := n1_; clear n0_ n1_; (try clear hb); (try clear hb2); (try clear hk); (try clear hi)))
      repeat (go_quiet (first | (go_at_call 11; (with_reducible refine (laws_zzFits1.calls k _ _ l0 true _ ?side1 ?side2 A2.out).mono ?_); (case side1 => repeat (first | exact HR0.out | (with_reducible refine Kd.C_alloc ?_ _) | (with_reducible refine Kd.C_drewN ?_ _) | (with_reducible refine Kd.C_drew ?_))); (case side2 => exact HC0.out); rintro e w27 ⟨rfl, hb⟩; have n0_ := Aside0.mk (below_step (by repeat (first | (with_reducible first | exact HB.out | apply below_alloc | apply pw_below_drewN | apply below_drew1) | exact HB.out)) hb); clear HB; have HB := n0_; clear n0_; (try clear hb); (try clear hb2); (try clear hk); (try clear hi)) | (go_at_call 12; (with_reducible refine (spec_Marks.calls _ _ l0 t369 false _ ?side1 ?side2 A4.out).mono ?_); (case side1 => repeat (first | exact (Kd.C_below HR0.out HB.out) | (with_reducible refine Kd.C_alloc ?_ _) | (with_reducible refine Kd.C_drewN ?_ _) | (with_reducible refine Kd.C_drew ?_))); (case side2 => exact HC0.out); rintro e w28 ⟨v371, rfl, ho0, hb⟩; have n0_ := Aside0.mk (Kd.S_lower ho0 (below_size (by repeat (first | (with_reducible first | exact HB.out | apply below_alloc | apply pw_below_drewN | apply below_drew1) | exact HB.out)))); have n1_ := Aside0.mk (below_step (by repeat (first | (with_reducible first | exact HB.out | apply below_alloc | apply pw_below_drewN | apply below_drew1) | exact HB.out)) hb); clear HB; have HO372 := n0_; have HB := n1_; clear n0_ n1_; (try clear hb); (try clear hb2); (try clear hk); (try clear hi); (try clear ho0)) | (go_at_call 13; (with_reducible refine (laws_marksWork.calls  t373 _ A26.out).mono ?_); rintro e w29 ⟨rfl, hb⟩; have n0_ := Aside0.mk (Kd.S_below (by (with_reducible repeat (first | apply Kd.S_alloc | apply Kd.S_drewN | apply Kd.S_drew)); exact HO372.out) hb); have n1_ := Aside0.mk (below_step (by repeat (first | (with_reducible first | exact HB.out | apply below_alloc | apply pw_below_drewN | apply below_drew1) | exact HB.out)) hb); clear HO372; clear HB; have HO372 := n0_; have HB := n1_; clear n0_ n1_; (try clear hb); (try clear hb2); (try clear hk); (try clear hi))); try go_wp2_with (first | (go_at_call 11; (with_reducible refine (laws_zzFits1.calls k _ _ l0 true _ ?side1 ?side2 A2.out).mono ?_); (case side1 => repeat (first | exact HR0.out | (with_reducible refine Kd.C_alloc ?_ _) | (with_reducible refine Kd.C_drewN ?_ _) | (with_reducible refine Kd.C_drew ?_))); (case side2 => exact HC0.out); rintro e w27 ⟨rfl, hb⟩; have n0_ := Aside0.mk (below_step (by repeat (first | (with_reducible first | exact HB.out | apply below_alloc | apply pw_below_drewN | apply below_drew1) | exact HB.out)) hb); clear HB; have HB := n0_; clear n0_; (try clear hb); (try clear hb2); (try clear hk); (try clear hi)) | (go_at_call 12; (with_reducible refine (spec_Marks.calls _ _ l0 t369 false _ ?side1 ?side2 A4.out).mono ?_); (case side1 => repeat (first | exact (Kd.C_below HR0.out HB.out) | (with_reducible refine Kd.C_alloc ?_ _) | (with_reducible refine Kd.C_drewN ?_ _) | (with_reducible refine Kd.C_drew ?_))); (case side2 => exact HC0.out); rintro e w28 ⟨v371, rfl, ho0, hb⟩; have n0_ := Aside0.mk (Kd.S_lower ho0 (below_size (by repeat (first | (with_reducible first | exact HB.out | apply below_alloc | apply pw_below_drewN | apply below_drew1) | exact HB.out)))); have n1_ := Aside0.mk (below_step (by repeat (first | (with_reducible first | exact HB.out | apply below_alloc | apply pw_below_drewN | apply below_drew1) | exact HB.out)) hb); clear HB; have HO372 := n0_; have HB := n1_; clear n0_ n1_; (try clear hb); (try clear hb2); (try clear hk); (try clear hi); (try clear ho0)) | (go_at_call 13; (with_reducible refine (laws_marksWork.calls  t373 _ A26.out).mono ?_); rintro e w29 ⟨rfl, hb⟩; have n0_ := Aside0.mk (Kd.S_below (by (with_reducible repeat (first | apply Kd.S_alloc | apply Kd.S_drewN | apply Kd.S_drew)); exact HO372.out) hb); have n1_ := Aside0.mk (below_step (by repeat (first | (with_reducible first | exact HB.out | apply below_alloc | apply pw_below_drewN | apply below_drew1) | exact HB.out)) hb); clear HO372; clear HB; have HO372 := n0_; have HB := n1_; clear n0_ n1_; (try clear hb); (try clear hb2); (try clear hk); (try clear hi))))
      go_ret
      exact ⟨by first | rfl | (simp [errW_none, errW_some] <;> rfl) | (simp [*, errW_none, errW_some] <;> rfl), by repeat (first | (with_reducible first | exact HB.out | apply below_alloc | apply pw_below_drewN | apply below_drew1) | exact HB.out)⟩
  · replace c3 := Bool.eq_false_iff.mpr c3
    subst c3
    have H1 : (some true) = some r := by rw [if_neg (show ¬ (false = true) by decide)] at H; exact H
    clear H
    have H := H1
    clear H1
    obtain rfl := Option.some.inj H
    go_enter Try.func10, Try.ntmps10
    go_wp2_with (first | (go_at_call 11; (with_reducible refine (laws_zzFits1.calls k _ _ l0 false _ ?side1 ?side2 A2.out).mono ?_); (case side1 => repeat (first | exact HR0.out | (with_reducible refine Kd.C_alloc ?_ _) | (with_reducible refine Kd.C_drewN ?_ _) | (with_reducible refine Kd.C_drew ?_))); (case side2 => exact HC0.out); rintro e w30 ⟨rfl, hb⟩; have n0_ := Aside0.mk (below_step (by repeat (first | (with_reducible first | exact HB.out | apply below_alloc | apply pw_below_drewN | apply below_drew1) | exact HB.out)) hb); clear HB; have HB := n0_; clear n0_; (try clear hb); (try clear hb2); (try clear hk); (try clear hi)))
    repeat (go_quiet (first | (go_at_call 11; (with_reducible refine (laws_zzFits1.calls k _ _ l0 false _ ?side1 ?side2 A2.out).mono ?_); (case side1 => repeat (first | exact HR0.out | (with_reducible refine Kd.C_alloc ?_ _) | (with_reducible refine Kd.C_drewN ?_ _) | (with_reducible refine Kd.C_drew ?_))); (case side2 => exact HC0.out); rintro e w30 ⟨rfl, hb⟩; have n0_ := Aside0.mk (below_step (by repeat (first | (with_reducible first | exact HB.out | apply below_alloc | apply pw_below_drewN | apply below_drew1) | exact HB.out)) hb); clear HB; have HB := n0_; clear n0_; (try clear hb); (try clear hb2); (try clear hk); (try clear hi))); try go_wp2_with (first | (go_at_call 11; (with_reducible refine (laws_zzFits1.calls k _ _ l0 false _ ?side1 ?side2 A2.out).mono ?_); (case side1 => repeat (first | exact HR0.out | (with_reducible refine Kd.C_alloc ?_ _) | (with_reducible refine Kd.C_drewN ?_ _) | (with_reducible refine Kd.C_drew ?_))); (case side2 => exact HC0.out); rintro e w30 ⟨rfl, hb⟩; have n0_ := Aside0.mk (below_step (by repeat (first | (with_reducible first | exact HB.out | apply below_alloc | apply pw_below_drewN | apply below_drew1) | exact HB.out)) hb); clear HB; have HB := n0_; clear n0_; (try clear hb); (try clear hb2); (try clear hk); (try clear hi))))
    go_ret
    exact ⟨by first | rfl | (simp [errW_none, errW_some] <;> rfl) | (simp [*, errW_none, errW_some] <;> rfl), by repeat (first | (with_reducible first | exact HB.out | apply below_alloc | apply pw_below_drewN | apply below_drew1) | exact HB.out)⟩

end Go.Proofs.Ytimakagmhikhfaa.M
