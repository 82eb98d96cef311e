/- As the print has them, turned for the tree: spec_Fits, spec_put, spec_Found. -/
import Derived.Test.YtnoolgbbpekomaaGreatDoorVz
import Derived.Test.YtnoolgbbpekomaaGreatDoorUa
namespace Go.Proofs.YtnoolgbbpekomaaGreatDoor.T
open Go.RowKit YtnoolgbbpekomaaGreatDoorW.PrintWords YtnoolgbbpekomaaGreatDoorW.PrintLast YtnoolgbbpekomaaGreatDoorW.PrintMore
attribute [local go_sem] max2_int min2_int max_two min_two max_three min_three max_four min_four   -- for this text's walks alone
set_option linter.unusedVariables false
set_option linter.unusedSimpArgs false
/-! ### spec_Fits: function 50 -/
def spec_Fits.l0 : Nat → ByteArray → Int → Bool → ByteArray → List (S67) → Int → Option (Bool)
  | 0, _, _, _, _, _, _ => none
  | k + 1, x1, x5, x319000, x319001, x319002, x319003 => if x5 < (x319001.size : Int) then ((spec_Hole.f k x319002 x5).bind fun t319 => (if t319 = true then (spec_Fits.l0 k x1 (wrap64 (x5 + 1)) x319000 x319001 x319002 x319003) else (if 0 ≤ x5 then (if x5 < (x1.size : Int) then (if (bt x1 x5) = (bt x319001 x5) then (spec_Fits.l0 k x1 (wrap64 (x5 + 1)) x319000 x319001 x319002 x319003) else (some false)) else (none)) else (none)))) else (some true)
def spec_Fits.f (k : Nat) (a0_0 : Bool) (a0_1 : ByteArray) (l0_2 : List (S67)) (a0_3 : Int) (a1 : ByteArray) : Option (Bool) := if (a1.size : Int) < (a0_1.size : Int) then (some false) else (spec_Fits.l0 k a1 0 a0_0 a0_1 l0_2 a0_3)
theorem spec_Fits.mono_l : ∀ k, (∀ y0 y1 y2 y3 y4 y5, LeO (spec_Fits.l0 k y0 y1 y2 y3 y4 y5) (spec_Fits.l0 (k + 1) y0 y1 y2 y3 y4 y5))
  | 0 => fun _ _ _ _ _ _ r h => by simp [spec_Fits.l0] at h
  | k + 1 => by
    have ih0 := spec_Fits.mono_l k
    · intro y0 y1 y2 y3 y4 y5
      unfold spec_Fits.l0
      repeat' first
      | (with_reducible exact ih0 _ _ _ _ _ _)
      | (with_reducible exact spec_Hole.mono _ _ _)
      | (with_reducible exact LeO.refl _)
      | (with_reducible exact LeO.none _)
      | (with_reducible refine LeO.ite ?_ ?_)
      | (with_reducible refine LeO.bind ?_ (fun _ => ?_))
      | exact ih0 _ _ _ _ _ _
      | exact spec_Hole.mono _ _ _
      | exact LeO.none _
      | refine LeO.ite ?_ ?_
      | refine LeO.bind ?_ (fun _ => ?_)
theorem spec_Fits.mono : ∀ a0 a1 a2 a3 a4 k, LeO (spec_Fits.f k a0 a1 a2 a3 a4) (spec_Fits.f (k + 1) a0 a1 a2 a3 a4) := by
  intro a0 a1 a2 a3 a4 k
  have ih0 := spec_Fits.mono_l k
  unfold spec_Fits.f
  repeat' first
      | (with_reducible exact ih0 _ _ _ _ _ _)
      | (with_reducible exact spec_Hole.mono _ _ _)
      | (with_reducible exact LeO.refl _)
      | (with_reducible exact LeO.none _)
      | (with_reducible refine LeO.ite ?_ ?_)
      | (with_reducible refine LeO.bind ?_ (fun _ => ?_))
      | exact ih0 _ _ _ _ _ _
      | exact spec_Hole.mono _ _ _
      | exact LeO.none _
      | refine LeO.ite ?_ ?_
      | refine LeO.bind ?_ (fun _ => ?_)
def spec_Fits.T6 : Bool × List (List Nat × List Nat) := (true, [([], []), ([0], [0]), ([], []), ([1, 2], [1, 2]), ([3], [3]), ([4, 3], [4]), ([5], [5]), ([5], [5]), ([6, 7, 5], [5, 6, 7]), ([5], [5]), ([9, 5], [5, 9]), ([5], [5]), ([10, 11, 5], [5, 10, 11]), ([8, 12, 5], [5, 8, 12]), ([5, 13], [5, 13])])
def spec_Fits.B6 : List Nat := [0, 1, 0, 7, 15, 31, 63, 63, 255, 63, 575, 63, 3647, 8191, 16383]
theorem spec_Fits.tab6 : rtab .any (opsOf Tryz.f50 6) = spec_Fits.T6 := by kernel_rfl
theorem spec_Fits.bits6 : waitsOk spec_Fits.T6.2 spec_Fits.B6 = true := by kernel_rfl
set_option maxHeartbeats 8000000 in
set_option maxRecDepth 100000 in
theorem spec_Fits.calls (k : Nat) (a0_0 : Bool) (a0_1 : ByteArray) (A0_2 : Option Addr) (c0_2 : Nat) (l0_2 : List (S67)) (a0_3 : Int) (a1 : ByteArray) (r : Bool) (w : World) (hr0_2 : Kd.C k67 w A0_2 l0_2.length l0_2) (hc0_2 : l0_2.length ≤ c0_2) (h : spec_Fits.f k a0_0 a0_1 l0_2 a0_3 a1 = some r) :
    Calls Tryz.prog 50 #[.agg #[.bool a0_0, .string a0_1, .slice A0_2 l0_2.length c0_2, .int .i64 a0_3], .string a1] w fun e w' => e = .returned (.bool r) ∧ Below w.heap.size w w' := by
  have hu42 := Tryz.underlying42
  have HR0_2 := Aside0.mk hr0_2
  have HC0_2 := Aside0.mk hc0_2
  clear hr0_2 hc0_2
  have HB := Aside0.mk (Below.refl w.heap.size w)
  have H : (if (a1.size : Int) < (a0_1.size : Int) then (some false) else (spec_Fits.l0 k a1 0 a0_0 a0_1 l0_2 a0_3)) = some r := h
  clear h
  by_cases c3 : (a1.size : Int) < (a0_1.size : Int)
  · rw [if_pos c3] at H
    have c3b0 : decide ((a1.size : Int) < (a0_1.size : Int)) = true := decide_eq_true c3
    have c3b1 : decide (a1.size < a0_1.size) = true := decide_eq_true (Int.ofNat_lt.mp c3)
    clear c3
    obtain rfl := Option.some.inj H
    go_enter Tryz.func50, Tryz.ntmps50
    go_wp2_with (first | ((with_reducible refine gate_dst (N := 2) rfl ?_); refine box_event ?hg (N := 2) ?hd (cs := #[.bool a0_0, .string a0_1, .slice A0_2 l0_2.length c0_2, .int .i64 a0_3]) (t := 42) ?hr ?_; (case hd => rfl); (case hg => rfl); (case hr => first | (go_simp; done) | (go_simp; rfl)); intro gb318 hg w4 hbox hb; have n0_ := Aside0.mk (below_step (Xb HB.out) hb); have n1_ := Aside0.mk (hbox); have n2_ := Aside0.mk ((by rw [hg]; exact (below_size (Xb HB.out)) : w.heap.size ≤ gb318)); have n3_ := Aside0.mk ((by rw [hg]; exact (below_size (Xb HB.out)) : w.heap.size ≤ gb318)); clear HB; have HB := n0_; have BK318 := n1_; have GW318 := n2_; have GE318 := n3_; clear n0_ n1_ n2_ n3_; clear hb hbox hg; have hcz5_0 : w4.cell? ⟨gb318, 0, none⟩ = some (.bool a0_0) := (blk_cell BK318.out 0).trans rfl; have hcz5_1 : w4.cell? ⟨gb318, 1, none⟩ = some (.string a0_1) := (blk_cell BK318.out 1).trans rfl; have hcz5_2 : w4.cell? ⟨gb318, 2, none⟩ = some (.slice A0_2 l0_2.length c0_2) := (blk_cell BK318.out 2).trans rfl; have hcz5_3 : w4.cell? ⟨gb318, 3, none⟩ = some (.int .i64 a0_3) := (blk_cell BK318.out 3).trans rfl; have hfz5_0 := blk_frozen BK318.out 0; have hfz5_1 := blk_frozen BK318.out 1; have hfz5_2 := blk_frozen BK318.out 2; have hfz5_3 := blk_frozen BK318.out 3))
    go_ret
    exact ⟨by first | rfl | (simp [errW_none, errW_some] <;> rfl) | (simp [*, errW_none, errW_some] <;> rfl), by repeat (first | (with_reducible first | exact HB.out | apply below_alloc | apply pw_below_drewN | apply below_drew1 | refine below_set ?_ GE318.out) | exact HB.out)⟩
  · rw [if_neg c3] at H
    have c3b0 : decide ((a1.size : Int) < (a0_1.size : Int)) = false := decide_eq_false c3
    have c3b1 : decide (a1.size < a0_1.size) = false := decide_eq_false (fun h => c3 (Int.ofNat_lt.mpr h))
    clear c3
    have H' := Aside0.mk H
    clear H
    go_enter Tryz.func50, Tryz.ntmps50
    go_wp2_with (first | ((with_reducible refine gate_dst (N := 2) rfl ?_); refine box_event ?hg (N := 2) ?hd (cs := #[.bool a0_0, .string a0_1, .slice A0_2 l0_2.length c0_2, .int .i64 a0_3]) (t := 42) ?hr ?_; (case hd => rfl); (case hg => rfl); (case hr => first | (go_simp; done) | (go_simp; rfl)); intro gb318 hg w6 hbox hb; have n0_ := Aside0.mk (below_step (Xb HB.out) hb); have n1_ := Aside0.mk (hbox); have n2_ := Aside0.mk ((by rw [hg]; exact (below_size (Xb HB.out)) : w.heap.size ≤ gb318)); have n3_ := Aside0.mk ((by rw [hg]; exact (below_size (Xb HB.out)) : w.heap.size ≤ gb318)); clear HB; have HB := n0_; have BK318 := n1_; have GW318 := n2_; have GE318 := n3_; clear n0_ n1_ n2_ n3_; clear hb hbox hg; have hcz7_0 : w6.cell? ⟨gb318, 0, none⟩ = some (.bool a0_0) := (blk_cell BK318.out 0).trans rfl; have hcz7_1 : w6.cell? ⟨gb318, 1, none⟩ = some (.string a0_1) := (blk_cell BK318.out 1).trans rfl; have hcz7_2 : w6.cell? ⟨gb318, 2, none⟩ = some (.slice A0_2 l0_2.length c0_2) := (blk_cell BK318.out 2).trans rfl; have hcz7_3 : w6.cell? ⟨gb318, 3, none⟩ = some (.int .i64 a0_3) := (blk_cell BK318.out 3).trans rfl; have hfz7_0 := blk_frozen BK318.out 0; have hfz7_1 := blk_frozen BK318.out 1; have hfz7_2 := blk_frozen BK318.out 2; have hfz7_3 := blk_frozen BK318.out 3))
    go_loopg [5] k (fun kq v5 w' => ∃ (x5_1 : Int), v5 = .int .i64 x5_1 ∧ Aside0 (spec_Fits.l0 kq a1 x5_1 a0_0 a0_1 l0_2 a0_3 = some r) ∧ Aside0 (kq ≤ k) ∧ Aside0 (w'.heap[gb318]? = some (.cells #[.bool a0_0, .string a0_1, (.slice A0_2 l0_2.length c0_2), .int .i64 a0_3] 42 (0, 0))) ∧ Aside0 (Below w.heap.size w w'))
    case atStart => exact ⟨(0), (by first | rfl | (simp; done) | (simp [*]; done)), H', ⟨Nat.le_refl _⟩, ⟨by (with_reducible repeat (first | refine blk_drewN ?_ _ | refine blk_drew ?_ | refine blk_alloc ?_ _)); exact BK318.out⟩, ⟨by repeat (first | (with_reducible first | exact HB.out | apply below_alloc | apply pw_below_drewN | apply below_drew1 | refine below_set ?_ GE318.out) | exact HB.out)⟩⟩
    case round =>
      clear H'
      try clear p2
      try clear c3
      try clear c3b0
      try clear c3b1
      try clear c5
      try clear hcz5_0
      try clear hcz5_1
      try clear hcz5_2
      try clear hcz5_3
      try clear hcz7_0
      try clear hcz7_1
      try clear hcz7_2
      try clear hcz7_3
      try clear hfz5_0
      try clear hfz5_1
      try clear hfz5_2
      try clear hfz5_3
      try clear hfz7_0
      try clear hfz7_1
      try clear hfz7_2
      try clear hfz7_3
      obtain ⟨x5_1, rfl, HA, HK1, BK318, HB⟩ := hrel
      cases gk with
      | zero => exact absurd HA.out (by simp [spec_Fits.l0])
      | succ k1 =>
        have H := HA.out
        clear HA
        simp only [spec_Fits.l0] at H
        by_cases c8 : x5_1 < (a0_1.size : Int)
        · rw [if_pos c8] at H
          have c8b0 : decide (x5_1 < (a0_1.size : Int)) = true := decide_eq_true c8
          clear c8
          replace H := Option.bind_eq_some_iff.mp H
          obtain ⟨t319, A90, H⟩ := H
          replace H : (if t319 = true then (spec_Fits.l0 k1 a1 (wrap64 (x5_1 + 1)) a0_0 a0_1 l0_2 a0_3) else (if 0 ≤ x5_1 then (if x5_1 < (a1.size : Int) then (if (bt a1 x5_1) = (bt a0_1 x5_1) then (spec_Fits.l0 k1 a1 (wrap64 (x5_1 + 1)) a0_0 a0_1 l0_2 a0_3) else (some false)) else (none)) else (none))) = some r := H
          have A9 := Aside0.mk A90
          clear A90
          by_cases c10 : t319 = true
          · subst c10
            have H1 : (spec_Fits.l0 k1 a1 (wrap64 (x5_1 + 1)) a0_0 a0_1 l0_2 a0_3) = some r := by rw [if_pos rfl] at H; exact H
            clear H
            have H := H1
            clear H1
            have H' := Aside0.mk H
            clear H
            have hcz11_0 : wr.cell? ⟨gb318, 0, none⟩ = some (.bool a0_0) := (blk_cell BK318.out 0).trans rfl
            have hcz11_1 : wr.cell? ⟨gb318, 1, none⟩ = some (.string a0_1) := (blk_cell BK318.out 1).trans rfl
            have hcz11_2 : wr.cell? ⟨gb318, 2, none⟩ = some (.slice A0_2 l0_2.length c0_2) := (blk_cell BK318.out 2).trans rfl
            have hcz11_3 : wr.cell? ⟨gb318, 3, none⟩ = some (.int .i64 a0_3) := (blk_cell BK318.out 3).trans rfl
            have hfz11_0 := blk_frozen BK318.out 0
            have hfz11_1 := blk_frozen BK318.out 1
            have hfz11_2 := blk_frozen BK318.out 2
            have hfz11_3 := blk_frozen BK318.out 3
            try go_wp2
            have n0_ := Aside0.mk (blk_drew BK318.out)
            have n1_ := Aside0.mk (below_drew1 HB.out)
            clear BK318
            clear HB
            have BK318 := n0_
            have HB := n1_
            clear n0_ n1_
            refine start_ (n := 15) (S := fun w' => w'.cell? ⟨gb318, 0, none⟩ = some (.bool a0_0) ∧ w'.cell? ⟨gb318, 1, none⟩ = some (.string a0_1) ∧ w'.cell? ⟨gb318, 2, none⟩ = some (.slice A0_2 l0_2.length c0_2) ∧ w'.cell? ⟨gb318, 3, none⟩ = some (.int .i64 a0_3)) (ds := []) #[false, false, false, false, false, false, false, false, false, false, false, false, false, false, false] (by kernel_rfl) rfl rfl ⟨(blk_cell BK318.out 0).trans rfl, (blk_cell BK318.out 1).trans rfl, (blk_cell BK318.out 2).trans rfl, (blk_cell BK318.out 3).trans rfl⟩ (fun hHeld => ?_); refine with_tabW spec_Fits.tab6 spec_Fits.bits6 (fun HT_ HW_ => ?_)
            generalize wr.drew = w12 at BK318 HB hHeld ⊢
            refine pure_ (i := 0) (N := some 19) (v := ?_) (a' := ?_) #[true, false, false, false, false, false, false, false, false, false, false, false, false, false, false] rfl rfl (any_of HT_.out (by kernel_rfl)) (fun _ _ _ h => h) (Or.inl ⟨by rfl, ?_⟩) ?_ ?_
            rotate_left
            · intro w'
              go_simp
              with_reducible rfl
            rotate_left
            · simp only [Act.put, List.setIfInBounds_toArray, List.set_cons_zero, List.set_cons_succ, i64_w, i32_w]
              rfl
            refine pure_ (i := 2) (N := some 21) (v := ?_) (a' := ?_) #[true, false, true, false, false, false, false, false, false, false, false, false, false, false, false] rfl rfl (any_of HT_.out (by kernel_rfl)) (fun _ _ _ h => h) (Or.inl ⟨by rfl, ?_⟩) ?_ ?_
            rotate_left
            · intro w'
              go_simp
              with_reducible rfl
            rotate_left
            · simp only [Act.put, List.setIfInBounds_toArray, List.set_cons_zero, List.set_cons_succ, i64_w, i32_w]
              rfl
            refine take_ (i := 1) (N := some 20) (v := ?_) (a' := ?_) #[true, true, true, false, false, false, false, false, false, false, false, false, false, false, false] rfl rfl (take_ofW HT_.out HW_.out (by kernel_rfl)) (fun _ _ _ h => h) (Or.inl ⟨by rfl, ?_⟩) hHeld ?_ ?_
            rotate_left
            · rintro w' ⟨s0, s1, s2, s3⟩
              go_simp
              with_reducible rfl
            rotate_left
            · simp only [Act.put, List.setIfInBounds_toArray, List.set_cons_zero, List.set_cons_succ, i64_w, i32_w]
              rfl
            refine one_ (i := 3) (N := some 22) #[true, true, true, true, false, false, false, false, false, false, false, false, false, false, false] rfl rfl (one_of HT_.out (by kernel_rfl)) (by decide) (fun K hK => ?_)
            refine goes_ Tryz.func20 (by kernel_rfl) rfl #[.slice A0_2 l0_2.length c0_2, .int .i64 x5_1] (by rfl) rfl rfl (by (try simp only [List.map_toArray, List.map_cons, List.map_nil]); first | done | rfl | (simp only [List.length_drop, List.length_take]; rfl)) ?_
            with_reducible refine (spec_Hole.calls k1 _ _ l0_2 x5_1 true _ ?side1 ?side2 A9.out).mono ?_
            (case side1 => exact XC (Kd.C_below HR0_2.out HB.out))
            (case side2 => exact HC0_2.out)
            rintro e w13 ⟨rfl, hb⟩
            refine ⟨_, rfl, ?_⟩
            have n0_ := Aside0.mk (blk_below (g := gb318) (o := .cells #[.bool a0_0, .string a0_1, .slice A0_2 l0_2.length c0_2, .int .i64 a0_3] 42 (0, 0)) (by (with_reducible repeat (first | refine blk_drewN ?_ _ | refine blk_drew ?_ | refine blk_alloc ?_ _)); exact BK318.out) hb)
            have n1_ := Aside0.mk (below_step (by repeat (first | (with_reducible first | exact HB.out | apply below_alloc | apply pw_below_drewN | apply below_drew1 | refine below_set ?_ GE318.out) | exact HB.out)) hb)
            clear BK318
            clear HB
            have BK318 := n0_
            have HB := n1_
            clear n0_ n1_
            (try clear hb)
            (try clear hb2)
            (try clear hk)
            (try clear hi)
            refine hK.out _ _ ⟨(blk_cell BK318.out 0).trans rfl, (blk_cell BK318.out 1).trans rfl, (blk_cell BK318.out 2).trans rfl, (blk_cell BK318.out 3).trans rfl⟩ (fun hHeld => ?_)
            clear hK K
            refine norm_ (a' := ?_) ?_ ?_
            rotate_left
            · show Act.put _ (some 22) _ = _
              simp only [Act.put, List.setIfInBounds_toArray, List.set_cons_zero, List.set_cons_succ, i64_w, i32_w]
              rfl
            refine pure_ (i := 4) (N := some 23) (v := ?_) (a' := ?_) #[true, true, true, true, true, false, false, false, false, false, false, false, false, false, false] rfl rfl (any_of HT_.out (by kernel_rfl)) (fun _ _ _ h => h) (Or.inl ⟨by rfl, ?_⟩) ?_ ?_
            rotate_left
            · intro w'
              go_simp
              with_reducible rfl
            rotate_left
            · simp only [Act.put, List.setIfInBounds_toArray, List.set_cons_zero, List.set_cons_succ, i64_w, i32_w]
              rfl
            refine pure_ (i := 5) (N := some 24) (v := ?_) (a' := ?_) #[true, true, true, true, true, true, false, false, false, false, false, false, false, false, false] rfl rfl (any_of HT_.out (by kernel_rfl)) (fun _ _ _ h => h) (Or.inl ⟨by rfl, ?_⟩) ?_ ?_
            rotate_left
            · intro w'
              go_simp
              with_reducible rfl
            rotate_left
            · simp only [Act.put, List.setIfInBounds_toArray, List.set_cons_zero, List.set_cons_succ, i64_w, i32_w]
              rfl
            refine pure_ (i := 6) (N := some 25) (v := undef) (a' := ?_) #[true, true, true, true, true, true, true, false, false, false, false, false, false, false, false] rfl rfl (any_of HT_.out (by kernel_rfl)) (fun _ _ _ h => h) (Or.inr ⟨by rfl, rfl⟩) ?_ ?_
            rotate_left
            · simp only [Act.put, List.setIfInBounds_toArray, List.set_cons_zero, List.set_cons_succ, i64_w, i32_w]
              rfl
            refine pure_ (i := 7) (N := some 26) (v := undef) (a' := ?_) #[true, true, true, true, true, true, true, true, false, false, false, false, false, false, false] rfl rfl (any_of HT_.out (by kernel_rfl)) (fun _ _ _ h => h) (Or.inr ⟨by rfl, rfl⟩) ?_ ?_
            rotate_left
            · simp only [Act.put, List.setIfInBounds_toArray, List.set_cons_zero, List.set_cons_succ, i64_w, i32_w]
              rfl
            refine pure_ (i := 8) (N := some 27) (v := undef) (a' := ?_) #[true, true, true, true, true, true, true, true, true, false, false, false, false, false, false] rfl rfl (any_of HT_.out (by kernel_rfl)) (fun _ _ _ h => h) (Or.inr ⟨by rfl, rfl⟩) ?_ ?_
            rotate_left
            · simp only [Act.put, List.setIfInBounds_toArray, List.set_cons_zero, List.set_cons_succ, i64_w, i32_w]
              rfl
            refine pure_ (i := 9) (N := some 28) (v := undef) (a' := ?_) #[true, true, true, true, true, true, true, true, true, true, false, false, false, false, false] rfl rfl (any_of HT_.out (by kernel_rfl)) (fun _ _ _ h => h) (Or.inr ⟨by rfl, rfl⟩) ?_ ?_
            rotate_left
            · simp only [Act.put, List.setIfInBounds_toArray, List.set_cons_zero, List.set_cons_succ, i64_w, i32_w]
              rfl
            refine pure_ (i := 10) (N := some 29) (v := undef) (a' := ?_) #[true, true, true, true, true, true, true, true, true, true, true, false, false, false, false] rfl rfl (any_of HT_.out (by kernel_rfl)) (fun _ _ _ h => h) (Or.inr ⟨by rfl, rfl⟩) ?_ ?_
            rotate_left
            · simp only [Act.put, List.setIfInBounds_toArray, List.set_cons_zero, List.set_cons_succ, i64_w, i32_w]
              rfl
            refine pure_ (i := 11) (N := some 30) (v := undef) (a' := ?_) #[true, true, true, true, true, true, true, true, true, true, true, true, false, false, false] rfl rfl (any_of HT_.out (by kernel_rfl)) (fun _ _ _ h => h) (Or.inr ⟨by rfl, rfl⟩) ?_ ?_
            rotate_left
            · simp only [Act.put, List.setIfInBounds_toArray, List.set_cons_zero, List.set_cons_succ, i64_w, i32_w]
              rfl
            refine pure_ (i := 12) (N := some 31) (v := undef) (a' := ?_) #[true, true, true, true, true, true, true, true, true, true, true, true, true, false, false] rfl rfl (any_of HT_.out (by kernel_rfl)) (fun _ _ _ h => h) (Or.inr ⟨by rfl, rfl⟩) ?_ ?_
            rotate_left
            · simp only [Act.put, List.setIfInBounds_toArray, List.set_cons_zero, List.set_cons_succ, i64_w, i32_w]
              rfl
            refine pure_ (i := 13) (N := some 32) (v := undef) (a' := ?_) #[true, true, true, true, true, true, true, true, true, true, true, true, true, true, false] rfl rfl (any_of HT_.out (by kernel_rfl)) (fun _ _ _ h => h) (Or.inr ⟨by rfl, rfl⟩) ?_ ?_
            rotate_left
            · simp only [Act.put, List.setIfInBounds_toArray, List.set_cons_zero, List.set_cons_succ, i64_w, i32_w]
              rfl
            refine pure_ (i := 14) (N := some 33) (v := ?_) (a' := ?_) #[true, true, true, true, true, true, true, true, true, true, true, true, true, true, true] rfl rfl (any_of HT_.out (by kernel_rfl)) (fun _ _ _ h => h) (Or.inl ⟨by rfl, ?_⟩) ?_ ?_
            rotate_left
            · intro w'
              go_simp
              with_reducible rfl
            rotate_left
            · simp only [Act.put, List.setIfInBounds_toArray, List.set_cons_zero, List.set_cons_succ, i64_w, i32_w]
              rfl
            refine done_ (done_of HT_.out (by kernel_rfl)) ?_
            try go_wp2
            go_roundg k1
            case measure => have := HK1.out; omega
            case rel => exact ⟨(wrap64 (x5_1 + 1)), (by first | rfl | (simp; done) | (simp [*]; done)), H', ⟨by have := HK1.out; omega⟩, ⟨by (with_reducible repeat (first | refine blk_drewN ?_ _ | refine blk_drew ?_ | refine blk_alloc ?_ _)); exact BK318.out⟩, ⟨by repeat (first | (with_reducible first | exact HB.out | apply below_alloc | apply pw_below_drewN | apply below_drew1 | refine below_set ?_ GE318.out) | exact HB.out)⟩⟩
          · replace c10 := Bool.eq_false_iff.mpr c10
            subst c10
            have H1 : (if 0 ≤ x5_1 then (if x5_1 < (a1.size : Int) then (if (bt a1 x5_1) = (bt a0_1 x5_1) then (spec_Fits.l0 k1 a1 (wrap64 (x5_1 + 1)) a0_0 a0_1 l0_2 a0_3) else (some false)) else (none)) else (none)) = some r := by rw [if_neg (show ¬ (false = true) by decide)] at H; exact H
            clear H
            have H := H1
            clear H1
            by_cases c14 : 0 ≤ x5_1
            · rw [if_pos c14] at H
              have c14b0 : decide (0 ≤ x5_1) = true := decide_eq_true c14
              clear c14
              by_cases c15 : x5_1 < (a1.size : Int)
              · rw [if_pos c15] at H
                have c15b0 : decide (x5_1 < (a1.size : Int)) = true := decide_eq_true c15
                clear c15
                by_cases c18 : (bt a1 x5_1) = (bt a0_1 x5_1)
                · rw [if_pos c18] at H
                  have c18b0 : ((bt a1 x5_1) == (bt a0_1 x5_1)) = true := beq_iff_eq.mpr c18
                  have c18b1 : ((bt a1 x5_1) != (bt a0_1 x5_1)) = false := bne_eq_false_iff_eq.mpr c18
                  clear c18
                  have H' := Aside0.mk H
                  clear H
                  have hcz19_0 : wr.cell? ⟨gb318, 0, none⟩ = some (.bool a0_0) := (blk_cell BK318.out 0).trans rfl
                  have hcz19_1 : wr.cell? ⟨gb318, 1, none⟩ = some (.string a0_1) := (blk_cell BK318.out 1).trans rfl
                  have hcz19_2 : wr.cell? ⟨gb318, 2, none⟩ = some (.slice A0_2 l0_2.length c0_2) := (blk_cell BK318.out 2).trans rfl
                  have hcz19_3 : wr.cell? ⟨gb318, 3, none⟩ = some (.int .i64 a0_3) := (blk_cell BK318.out 3).trans rfl
                  have hfz19_0 := blk_frozen BK318.out 0
                  have hfz19_1 := blk_frozen BK318.out 1
                  have hfz19_2 := blk_frozen BK318.out 2
                  have hfz19_3 := blk_frozen BK318.out 3
                  try go_wp2
                  have n0_ := Aside0.mk (blk_drew BK318.out)
                  have n1_ := Aside0.mk (below_drew1 HB.out)
                  clear BK318
                  clear HB
                  have BK318 := n0_
                  have HB := n1_
                  clear n0_ n1_
                  refine start_ (n := 15) (S := fun w' => w'.cell? ⟨gb318, 0, none⟩ = some (.bool a0_0) ∧ w'.cell? ⟨gb318, 1, none⟩ = some (.string a0_1) ∧ w'.cell? ⟨gb318, 2, none⟩ = some (.slice A0_2 l0_2.length c0_2) ∧ w'.cell? ⟨gb318, 3, none⟩ = some (.int .i64 a0_3)) (ds := []) #[false, false, false, false, false, false, false, false, false, false, false, false, false, false, false] (by kernel_rfl) rfl rfl ⟨(blk_cell BK318.out 0).trans rfl, (blk_cell BK318.out 1).trans rfl, (blk_cell BK318.out 2).trans rfl, (blk_cell BK318.out 3).trans rfl⟩ (fun hHeld => ?_); refine with_tabW spec_Fits.tab6 spec_Fits.bits6 (fun HT_ HW_ => ?_)
                  generalize wr.drew = w20 at BK318 HB hHeld ⊢
                  refine pure_ (i := 0) (N := some 19) (v := ?_) (a' := ?_) #[true, false, false, false, false, false, false, false, false, false, false, false, false, false, false] rfl rfl (any_of HT_.out (by kernel_rfl)) (fun _ _ _ h => h) (Or.inl ⟨by rfl, ?_⟩) ?_ ?_
                  rotate_left
                  · intro w'
                    go_simp
                    with_reducible rfl
                  rotate_left
                  · simp only [Act.put, List.setIfInBounds_toArray, List.set_cons_zero, List.set_cons_succ, i64_w, i32_w]
                    rfl
                  refine pure_ (i := 2) (N := some 21) (v := ?_) (a' := ?_) #[true, false, true, false, false, false, false, false, false, false, false, false, false, false, false] rfl rfl (any_of HT_.out (by kernel_rfl)) (fun _ _ _ h => h) (Or.inl ⟨by rfl, ?_⟩) ?_ ?_
                  rotate_left
                  · intro w'
                    go_simp
                    with_reducible rfl
                  rotate_left
                  · simp only [Act.put, List.setIfInBounds_toArray, List.set_cons_zero, List.set_cons_succ, i64_w, i32_w]
                    rfl
                  refine take_ (i := 1) (N := some 20) (v := ?_) (a' := ?_) #[true, true, true, false, false, false, false, false, false, false, false, false, false, false, false] rfl rfl (take_ofW HT_.out HW_.out (by kernel_rfl)) (fun _ _ _ h => h) (Or.inl ⟨by rfl, ?_⟩) hHeld ?_ ?_
                  rotate_left
                  · rintro w' ⟨s0, s1, s2, s3⟩
                    go_simp
                    with_reducible rfl
                  rotate_left
                  · simp only [Act.put, List.setIfInBounds_toArray, List.set_cons_zero, List.set_cons_succ, i64_w, i32_w]
                    rfl
                  refine one_ (i := 3) (N := some 22) #[true, true, true, true, false, false, false, false, false, false, false, false, false, false, false] rfl rfl (one_of HT_.out (by kernel_rfl)) (by decide) (fun K hK => ?_)
                  refine goes_ Tryz.func20 (by kernel_rfl) rfl #[.slice A0_2 l0_2.length c0_2, .int .i64 x5_1] (by rfl) rfl rfl (by (try simp only [List.map_toArray, List.map_cons, List.map_nil]); first | done | rfl | (simp only [List.length_drop, List.length_take]; rfl)) ?_
                  with_reducible refine (spec_Hole.calls k1 _ _ l0_2 x5_1 false _ ?side1 ?side2 A9.out).mono ?_
                  (case side1 => exact XC (Kd.C_below HR0_2.out HB.out))
                  (case side2 => exact HC0_2.out)
                  rintro e w21 ⟨rfl, hb⟩
                  refine ⟨_, rfl, ?_⟩
                  have n0_ := Aside0.mk (blk_below (g := gb318) (o := .cells #[.bool a0_0, .string a0_1, .slice A0_2 l0_2.length c0_2, .int .i64 a0_3] 42 (0, 0)) (by (with_reducible repeat (first | refine blk_drewN ?_ _ | refine blk_drew ?_ | refine blk_alloc ?_ _)); exact BK318.out) hb)
                  have n1_ := Aside0.mk (below_step (by repeat (first | (with_reducible first | exact HB.out | apply below_alloc | apply pw_below_drewN | apply below_drew1 | refine below_set ?_ GE318.out) | exact HB.out)) hb)
                  clear BK318
                  clear HB
                  have BK318 := n0_
                  have HB := n1_
                  clear n0_ n1_
                  (try clear hb)
                  (try clear hb2)
                  (try clear hk)
                  (try clear hi)
                  have p16 : 0 ≤ (x5_1 : Int) := of_decide_eq_true (by first | (with_reducible assumption) | assumption)
                  have q16 : x5_1 < (a1.size : Int) := of_decide_eq_true (by first | (with_reducible assumption) | assumption)
                  have hx16 := bt_at a1 x5_1
                  replace p16 := eq_true p16
                  replace q16 := eq_true q16
                  have p17 : 0 ≤ (x5_1 : Int) := of_decide_eq_true (by first | (with_reducible assumption) | assumption)
                  have q17 : x5_1 < (a0_1.size : Int) := of_decide_eq_true (by first | (with_reducible assumption) | assumption)
                  have hx17 := bt_at a0_1 x5_1
                  replace p17 := eq_true p17
                  replace q17 := eq_true q17
                  refine hK.out _ _ ⟨(blk_cell BK318.out 0).trans rfl, (blk_cell BK318.out 1).trans rfl, (blk_cell BK318.out 2).trans rfl, (blk_cell BK318.out 3).trans rfl⟩ (fun hHeld => ?_)
                  clear hK K
                  refine norm_ (a' := ?_) ?_ ?_
                  rotate_left
                  · show Act.put _ (some 22) _ = _
                    simp only [Act.put, List.setIfInBounds_toArray, List.set_cons_zero, List.set_cons_succ, i64_w, i32_w]
                    rfl
                  refine pure_ (i := 4) (N := some 23) (v := ?_) (a' := ?_) #[true, true, true, true, true, false, false, false, false, false, false, false, false, false, false] rfl rfl (any_of HT_.out (by kernel_rfl)) (fun _ _ _ h => h) (Or.inl ⟨by rfl, ?_⟩) ?_ ?_
                  rotate_left
                  · intro w'
                    go_simp
                    with_reducible rfl
                  rotate_left
                  · simp only [Act.put, List.setIfInBounds_toArray, List.set_cons_zero, List.set_cons_succ, i64_w, i32_w]
                    rfl
                  refine pure_ (i := 5) (N := some 24) (v := ?_) (a' := ?_) #[true, true, true, true, true, true, false, false, false, false, false, false, false, false, false] rfl rfl (any_of HT_.out (by kernel_rfl)) (fun _ _ _ h => h) (Or.inl ⟨by rfl, ?_⟩) ?_ ?_
                  rotate_left
                  · intro w'
                    go_simp
                    with_reducible rfl
                  rotate_left
                  · simp only [Act.put, List.setIfInBounds_toArray, List.set_cons_zero, List.set_cons_succ, i64_w, i32_w]
                    rfl
                  refine pure_ (i := 6) (N := some 25) (v := ?_) (a' := ?_) #[true, true, true, true, true, true, true, false, false, false, false, false, false, false, false] rfl rfl (any_of HT_.out (by kernel_rfl)) (fun _ _ _ h => h) (Or.inl ⟨by rfl, ?_⟩) ?_ ?_
                  rotate_left
                  · intro w'
                    go_simp
                    with_reducible rfl
                  rotate_left
                  · simp only [Act.put, List.setIfInBounds_toArray, List.set_cons_zero, List.set_cons_succ, i64_w, i32_w]
                    rfl
                  refine pure_ (i := 7) (N := some 26) (v := ?_) (a' := ?_) #[true, true, true, true, true, true, true, true, false, false, false, false, false, false, false] rfl rfl (any_of HT_.out (by kernel_rfl)) (fun _ _ _ h => h) (Or.inl ⟨by rfl, ?_⟩) ?_ ?_
                  rotate_left
                  · intro w'
                    go_simp
                    with_reducible rfl
                  rotate_left
                  · simp only [Act.put, List.setIfInBounds_toArray, List.set_cons_zero, List.set_cons_succ, i64_w, i32_w]
                    rfl
                  refine pure_ (i := 9) (N := some 28) (v := ?_) (a' := ?_) #[true, true, true, true, true, true, true, true, false, true, false, false, false, false, false] rfl rfl (any_of HT_.out (by kernel_rfl)) (fun _ _ _ h => h) (Or.inl ⟨by rfl, ?_⟩) ?_ ?_
                  rotate_left
                  · intro w'
                    go_simp
                    with_reducible rfl
                  rotate_left
                  · simp only [Act.put, List.setIfInBounds_toArray, List.set_cons_zero, List.set_cons_succ, i64_w, i32_w]
                    rfl
                  refine pure_ (i := 11) (N := some 30) (v := ?_) (a' := ?_) #[true, true, true, true, true, true, true, true, false, true, false, true, false, false, false] rfl rfl (any_of HT_.out (by kernel_rfl)) (fun _ _ _ h => h) (Or.inl ⟨by rfl, ?_⟩) ?_ ?_
                  rotate_left
                  · intro w'
                    go_simp
                    with_reducible rfl
                  rotate_left
                  · simp only [Act.put, List.setIfInBounds_toArray, List.set_cons_zero, List.set_cons_succ, i64_w, i32_w]
                    rfl
                  refine take_ (i := 8) (N := some 27) (v := ?_) (a' := ?_) #[true, true, true, true, true, true, true, true, true, true, false, true, false, false, false] rfl rfl (take_ofW HT_.out HW_.out (by kernel_rfl)) (fun _ _ _ h => h) (Or.inl ⟨by rfl, ?_⟩) hHeld ?_ ?_
                  rotate_left
                  · rintro w' ⟨s0, s1, s2, s3⟩
                    go_simp
                    with_reducible rfl
                  rotate_left
                  · simp only [Act.put, List.setIfInBounds_toArray, List.set_cons_zero, List.set_cons_succ, i64_w, i32_w]
                    rfl
                  refine take_ (i := 10) (N := some 29) (v := ?_) (a' := ?_) #[true, true, true, true, true, true, true, true, true, true, true, true, false, false, false] rfl rfl (take_ofW HT_.out HW_.out (by kernel_rfl)) (fun _ _ _ h => h) (Or.inl ⟨by rfl, ?_⟩) hHeld ?_ ?_
                  rotate_left
                  · rintro w' ⟨s0, s1, s2, s3⟩
                    go_simp
                    with_reducible rfl
                  rotate_left
                  · simp only [Act.put, List.setIfInBounds_toArray, List.set_cons_zero, List.set_cons_succ, i64_w, i32_w]
                    rfl
                  refine take_ (i := 12) (N := some 31) (v := ?_) (a' := ?_) #[true, true, true, true, true, true, true, true, true, true, true, true, true, false, false] rfl rfl (take_ofW HT_.out HW_.out (by kernel_rfl)) (fun _ _ _ h => h) (Or.inl ⟨by rfl, ?_⟩) hHeld ?_ ?_
                  rotate_left
                  · rintro w' ⟨s0, s1, s2, s3⟩
                    go_simp
                    with_reducible rfl
                  rotate_left
                  · simp only [Act.put, List.setIfInBounds_toArray, List.set_cons_zero, List.set_cons_succ, i64_w, i32_w]
                    rfl
                  refine pure_ (i := 13) (N := some 32) (v := ?_) (a' := ?_) #[true, true, true, true, true, true, true, true, true, true, true, true, true, true, false] rfl rfl (any_of HT_.out (by kernel_rfl)) (fun _ _ _ h => h) (Or.inl ⟨by rfl, ?_⟩) ?_ ?_
                  rotate_left
                  · intro w'
                    go_simp
                    with_reducible rfl
                  rotate_left
                  · simp only [Act.put, List.setIfInBounds_toArray, List.set_cons_zero, List.set_cons_succ, i64_w, i32_w]
                    rfl
                  refine pure_ (i := 14) (N := some 33) (v := ?_) (a' := ?_) #[true, true, true, true, true, true, true, true, true, true, true, true, true, true, true] rfl rfl (any_of HT_.out (by kernel_rfl)) (fun _ _ _ h => h) (Or.inl ⟨by rfl, ?_⟩) ?_ ?_
                  rotate_left
                  · intro w'
                    go_simp
                    with_reducible rfl
                  rotate_left
                  · simp only [Act.put, List.setIfInBounds_toArray, List.set_cons_zero, List.set_cons_succ, i64_w, i32_w]
                    rfl
                  refine done_ (done_of HT_.out (by kernel_rfl)) ?_
                  try go_wp2
                  go_roundg k1
                  case measure => have := HK1.out; omega
                  case rel => exact ⟨(wrap64 (x5_1 + 1)), (by first | rfl | (simp; done) | (simp [*]; done)), H', ⟨by have := HK1.out; omega⟩, ⟨by (with_reducible repeat (first | refine blk_drewN ?_ _ | refine blk_drew ?_ | refine blk_alloc ?_ _)); exact BK318.out⟩, ⟨by repeat (first | (with_reducible first | exact HB.out | apply below_alloc | apply pw_below_drewN | apply below_drew1 | refine below_set ?_ GE318.out) | exact HB.out)⟩⟩
                · rw [if_neg c18] at H
                  have c18b0 : ((bt a1 x5_1) == (bt a0_1 x5_1)) = false := beq_eq_false_iff_ne.mpr c18
                  have c18b1 : ((bt a1 x5_1) != (bt a0_1 x5_1)) = true := bne_iff_ne.mpr c18
                  obtain rfl := Option.some.inj H
                  have hcz22_0 : wr.cell? ⟨gb318, 0, none⟩ = some (.bool a0_0) := (blk_cell BK318.out 0).trans rfl
                  have hcz22_1 : wr.cell? ⟨gb318, 1, none⟩ = some (.string a0_1) := (blk_cell BK318.out 1).trans rfl
                  have hcz22_2 : wr.cell? ⟨gb318, 2, none⟩ = some (.slice A0_2 l0_2.length c0_2) := (blk_cell BK318.out 2).trans rfl
                  have hcz22_3 : wr.cell? ⟨gb318, 3, none⟩ = some (.int .i64 a0_3) := (blk_cell BK318.out 3).trans rfl
                  have hfz22_0 := blk_frozen BK318.out 0
                  have hfz22_1 := blk_frozen BK318.out 1
                  have hfz22_2 := blk_frozen BK318.out 2
                  have hfz22_3 := blk_frozen BK318.out 3
                  try go_wp2
                  have n0_ := Aside0.mk (blk_drew BK318.out)
                  have n1_ := Aside0.mk (below_drew1 HB.out)
                  clear BK318
                  clear HB
                  have BK318 := n0_
                  have HB := n1_
                  clear n0_ n1_
                  refine start_ (n := 15) (S := fun w' => w'.cell? ⟨gb318, 0, none⟩ = some (.bool a0_0) ∧ w'.cell? ⟨gb318, 1, none⟩ = some (.string a0_1) ∧ w'.cell? ⟨gb318, 2, none⟩ = some (.slice A0_2 l0_2.length c0_2) ∧ w'.cell? ⟨gb318, 3, none⟩ = some (.int .i64 a0_3)) (ds := []) #[false, false, false, false, false, false, false, false, false, false, false, false, false, false, false] (by kernel_rfl) rfl rfl ⟨(blk_cell BK318.out 0).trans rfl, (blk_cell BK318.out 1).trans rfl, (blk_cell BK318.out 2).trans rfl, (blk_cell BK318.out 3).trans rfl⟩ (fun hHeld => ?_); refine with_tabW spec_Fits.tab6 spec_Fits.bits6 (fun HT_ HW_ => ?_)
                  generalize wr.drew = w23 at BK318 HB hHeld ⊢
                  refine pure_ (i := 0) (N := some 19) (v := ?_) (a' := ?_) #[true, false, false, false, false, false, false, false, false, false, false, false, false, false, false] rfl rfl (any_of HT_.out (by kernel_rfl)) (fun _ _ _ h => h) (Or.inl ⟨by rfl, ?_⟩) ?_ ?_
                  rotate_left
                  · intro w'
                    go_simp
                    with_reducible rfl
                  rotate_left
                  · simp only [Act.put, List.setIfInBounds_toArray, List.set_cons_zero, List.set_cons_succ, i64_w, i32_w]
                    rfl
                  refine pure_ (i := 2) (N := some 21) (v := ?_) (a' := ?_) #[true, false, true, false, false, false, false, false, false, false, false, false, false, false, false] rfl rfl (any_of HT_.out (by kernel_rfl)) (fun _ _ _ h => h) (Or.inl ⟨by rfl, ?_⟩) ?_ ?_
                  rotate_left
                  · intro w'
                    go_simp
                    with_reducible rfl
                  rotate_left
                  · simp only [Act.put, List.setIfInBounds_toArray, List.set_cons_zero, List.set_cons_succ, i64_w, i32_w]
                    rfl
                  refine take_ (i := 1) (N := some 20) (v := ?_) (a' := ?_) #[true, true, true, false, false, false, false, false, false, false, false, false, false, false, false] rfl rfl (take_ofW HT_.out HW_.out (by kernel_rfl)) (fun _ _ _ h => h) (Or.inl ⟨by rfl, ?_⟩) hHeld ?_ ?_
                  rotate_left
                  · rintro w' ⟨s0, s1, s2, s3⟩
                    go_simp
                    with_reducible rfl
                  rotate_left
                  · simp only [Act.put, List.setIfInBounds_toArray, List.set_cons_zero, List.set_cons_succ, i64_w, i32_w]
                    rfl
                  refine one_ (i := 3) (N := some 22) #[true, true, true, true, false, false, false, false, false, false, false, false, false, false, false] rfl rfl (one_of HT_.out (by kernel_rfl)) (by decide) (fun K hK => ?_)
                  refine goes_ Tryz.func20 (by kernel_rfl) rfl #[.slice A0_2 l0_2.length c0_2, .int .i64 x5_1] (by rfl) rfl rfl (by (try simp only [List.map_toArray, List.map_cons, List.map_nil]); first | done | rfl | (simp only [List.length_drop, List.length_take]; rfl)) ?_
                  with_reducible refine (spec_Hole.calls k1 _ _ l0_2 x5_1 false _ ?side1 ?side2 A9.out).mono ?_
                  (case side1 => exact XC (Kd.C_below HR0_2.out HB.out))
                  (case side2 => exact HC0_2.out)
                  rintro e w24 ⟨rfl, hb⟩
                  refine ⟨_, rfl, ?_⟩
                  have n0_ := Aside0.mk (blk_below (g := gb318) (o := .cells #[.bool a0_0, .string a0_1, .slice A0_2 l0_2.length c0_2, .int .i64 a0_3] 42 (0, 0)) (by (with_reducible repeat (first | refine blk_drewN ?_ _ | refine blk_drew ?_ | refine blk_alloc ?_ _)); exact BK318.out) hb)
                  have n1_ := Aside0.mk (below_step (by repeat (first | (with_reducible first | exact HB.out | apply below_alloc | apply pw_below_drewN | apply below_drew1 | refine below_set ?_ GE318.out) | exact HB.out)) hb)
                  clear BK318
                  clear HB
                  have BK318 := n0_
                  have HB := n1_
                  clear n0_ n1_
                  (try clear hb)
                  (try clear hb2)
                  (try clear hk)
                  (try clear hi)
                  have p16 : 0 ≤ (x5_1 : Int) := of_decide_eq_true (by first | (with_reducible assumption) | assumption)
                  have q16 : x5_1 < (a1.size : Int) := of_decide_eq_true (by first | (with_reducible assumption) | assumption)
                  have hx16 := bt_at a1 x5_1
                  replace p16 := eq_true p16
                  replace q16 := eq_true q16
                  have p17 : 0 ≤ (x5_1 : Int) := of_decide_eq_true (by first | (with_reducible assumption) | assumption)
                  have q17 : x5_1 < (a0_1.size : Int) := of_decide_eq_true (by first | (with_reducible assumption) | assumption)
                  have hx17 := bt_at a0_1 x5_1
                  replace p17 := eq_true p17
                  replace q17 := eq_true q17
                  refine hK.out _ _ ⟨(blk_cell BK318.out 0).trans rfl, (blk_cell BK318.out 1).trans rfl, (blk_cell BK318.out 2).trans rfl, (blk_cell BK318.out 3).trans rfl⟩ (fun hHeld => ?_)
                  clear hK K
                  refine norm_ (a' := ?_) ?_ ?_
                  rotate_left
                  · show Act.put _ (some 22) _ = _
                    simp only [Act.put, List.setIfInBounds_toArray, List.set_cons_zero, List.set_cons_succ, i64_w, i32_w]
                    rfl
                  refine pure_ (i := 4) (N := some 23) (v := ?_) (a' := ?_) #[true, true, true, true, true, false, false, false, false, false, false, false, false, false, false] rfl rfl (any_of HT_.out (by kernel_rfl)) (fun _ _ _ h => h) (Or.inl ⟨by rfl, ?_⟩) ?_ ?_
                  rotate_left
                  · intro w'
                    go_simp
                    with_reducible rfl
                  rotate_left
                  · simp only [Act.put, List.setIfInBounds_toArray, List.set_cons_zero, List.set_cons_succ, i64_w, i32_w]
                    rfl
                  refine pure_ (i := 5) (N := some 24) (v := ?_) (a' := ?_) #[true, true, true, true, true, true, false, false, false, false, false, false, false, false, false] rfl rfl (any_of HT_.out (by kernel_rfl)) (fun _ _ _ h => h) (Or.inl ⟨by rfl, ?_⟩) ?_ ?_
                  rotate_left
                  · intro w'
                    go_simp
                    with_reducible rfl
                  rotate_left
                  · simp only [Act.put, List.setIfInBounds_toArray, List.set_cons_zero, List.set_cons_succ, i64_w, i32_w]
                    rfl
                  refine pure_ (i := 6) (N := some 25) (v := ?_) (a' := ?_) #[true, true, true, true, true, true, true, false, false, false, false, false, false, false, false] rfl rfl (any_of HT_.out (by kernel_rfl)) (fun _ _ _ h => h) (Or.inl ⟨by rfl, ?_⟩) ?_ ?_
                  rotate_left
                  · intro w'
                    go_simp
                    with_reducible rfl
                  rotate_left
                  · simp only [Act.put, List.setIfInBounds_toArray, List.set_cons_zero, List.set_cons_succ, i64_w, i32_w]
                    rfl
                  refine pure_ (i := 7) (N := some 26) (v := ?_) (a' := ?_) #[true, true, true, true, true, true, true, true, false, false, false, false, false, false, false] rfl rfl (any_of HT_.out (by kernel_rfl)) (fun _ _ _ h => h) (Or.inl ⟨by rfl, ?_⟩) ?_ ?_
                  rotate_left
                  · intro w'
                    go_simp
                    with_reducible rfl
                  rotate_left
                  · simp only [Act.put, List.setIfInBounds_toArray, List.set_cons_zero, List.set_cons_succ, i64_w, i32_w]
                    rfl
                  refine pure_ (i := 9) (N := some 28) (v := ?_) (a' := ?_) #[true, true, true, true, true, true, true, true, false, true, false, false, false, false, false] rfl rfl (any_of HT_.out (by kernel_rfl)) (fun _ _ _ h => h) (Or.inl ⟨by rfl, ?_⟩) ?_ ?_
                  rotate_left
                  · intro w'
                    go_simp
                    with_reducible rfl
                  rotate_left
                  · simp only [Act.put, List.setIfInBounds_toArray, List.set_cons_zero, List.set_cons_succ, i64_w, i32_w]
                    rfl
                  refine pure_ (i := 11) (N := some 30) (v := ?_) (a' := ?_) #[true, true, true, true, true, true, true, true, false, true, false, true, false, false, false] rfl rfl (any_of HT_.out (by kernel_rfl)) (fun _ _ _ h => h) (Or.inl ⟨by rfl, ?_⟩) ?_ ?_
                  rotate_left
                  · intro w'
                    go_simp
                    with_reducible rfl
                  rotate_left
                  · simp only [Act.put, List.setIfInBounds_toArray, List.set_cons_zero, List.set_cons_succ, i64_w, i32_w]
                    rfl
                  refine take_ (i := 8) (N := some 27) (v := ?_) (a' := ?_) #[true, true, true, true, true, true, true, true, true, true, false, true, false, false, false] rfl rfl (take_ofW HT_.out HW_.out (by kernel_rfl)) (fun _ _ _ h => h) (Or.inl ⟨by rfl, ?_⟩) hHeld ?_ ?_
                  rotate_left
                  · rintro w' ⟨s0, s1, s2, s3⟩
                    go_simp
                    with_reducible rfl
                  rotate_left
                  · simp only [Act.put, List.setIfInBounds_toArray, List.set_cons_zero, List.set_cons_succ, i64_w, i32_w]
                    rfl
                  refine take_ (i := 10) (N := some 29) (v := ?_) (a' := ?_) #[true, true, true, true, true, true, true, true, true, true, true, true, false, false, false] rfl rfl (take_ofW HT_.out HW_.out (by kernel_rfl)) (fun _ _ _ h => h) (Or.inl ⟨by rfl, ?_⟩) hHeld ?_ ?_
                  rotate_left
                  · rintro w' ⟨s0, s1, s2, s3⟩
                    go_simp
                    with_reducible rfl
                  rotate_left
                  · simp only [Act.put, List.setIfInBounds_toArray, List.set_cons_zero, List.set_cons_succ, i64_w, i32_w]
                    rfl
                  refine take_ (i := 12) (N := some 31) (v := ?_) (a' := ?_) #[true, true, true, true, true, true, true, true, true, true, true, true, true, false, false] rfl rfl (take_ofW HT_.out HW_.out (by kernel_rfl)) (fun _ _ _ h => h) (Or.inl ⟨by rfl, ?_⟩) hHeld ?_ ?_
                  rotate_left
                  · rintro w' ⟨s0, s1, s2, s3⟩
                    go_simp
                    with_reducible rfl
                  rotate_left
                  · simp only [Act.put, List.setIfInBounds_toArray, List.set_cons_zero, List.set_cons_succ, i64_w, i32_w]
                    rfl
                  refine pure_ (i := 13) (N := some 32) (v := ?_) (a' := ?_) #[true, true, true, true, true, true, true, true, true, true, true, true, true, true, false] rfl rfl (any_of HT_.out (by kernel_rfl)) (fun _ _ _ h => h) (Or.inl ⟨by rfl, ?_⟩) ?_ ?_
                  rotate_left
                  · intro w'
                    go_simp
                    with_reducible rfl
                  rotate_left
                  · simp only [Act.put, List.setIfInBounds_toArray, List.set_cons_zero, List.set_cons_succ, i64_w, i32_w]
                    rfl
                  refine pure_ (i := 14) (N := some 33) (v := ?_) (a' := ?_) #[true, true, true, true, true, true, true, true, true, true, true, true, true, true, true] rfl rfl (any_of HT_.out (by kernel_rfl)) (fun _ _ _ h => h) (Or.inl ⟨by rfl, ?_⟩) ?_ ?_
                  rotate_left
                  · intro w'
                    go_simp
                    with_reducible rfl
                  rotate_left
                  · simp only [Act.put, List.setIfInBounds_toArray, List.set_cons_zero, List.set_cons_succ, i64_w, i32_w]
                    rfl
                  refine done_ (done_of HT_.out (by kernel_rfl)) ?_
                  try go_wp2
                  go_ret
                  exact ⟨by first | rfl | (simp [errW_none, errW_some] <;> rfl) | (simp [*, errW_none, errW_some] <;> rfl), by repeat (first | (with_reducible first | exact HB.out | apply below_alloc | apply pw_below_drewN | apply below_drew1 | refine below_set ?_ GE318.out) | exact HB.out)⟩
              · rw [if_neg c15] at H
                exact absurd H (by simp)
            · rw [if_neg c14] at H
              exact absurd H (by simp)
        · rw [if_neg c8] at H
          have c8b0 : decide (x5_1 < (a0_1.size : Int)) = false := decide_eq_false c8
          clear c8
          obtain rfl := Option.some.inj H
          have hcz25_0 : wr.cell? ⟨gb318, 0, none⟩ = some (.bool a0_0) := (blk_cell BK318.out 0).trans rfl
          have hcz25_1 : wr.cell? ⟨gb318, 1, none⟩ = some (.string a0_1) := (blk_cell BK318.out 1).trans rfl
          have hcz25_2 : wr.cell? ⟨gb318, 2, none⟩ = some (.slice A0_2 l0_2.length c0_2) := (blk_cell BK318.out 2).trans rfl
          have hcz25_3 : wr.cell? ⟨gb318, 3, none⟩ = some (.int .i64 a0_3) := (blk_cell BK318.out 3).trans rfl
          have hfz25_0 := blk_frozen BK318.out 0
          have hfz25_1 := blk_frozen BK318.out 1
          have hfz25_2 := blk_frozen BK318.out 2
          have hfz25_3 := blk_frozen BK318.out 3
          go_wp2
          go_ret
          exact ⟨by first | rfl | (simp [errW_none, errW_some] <;> rfl) | (simp [*, errW_none, errW_some] <;> rfl), by repeat (first | (with_reducible first | exact HB.out | apply below_alloc | apply pw_below_drewN | apply below_drew1 | refine below_set ?_ GE318.out) | exact HB.out)⟩
/-! ### spec_put: function 51 -/
def spec_put.l0 : Nat → List Int → Int → Int → Option (List Int)
  | 0, _, _, _ => none
  | k + 1, x0, x1, x5 => if x5 < (x0.length : Int) then (if 0 ≤ x5 then (if (rd x0 x5) < x1 then (spec_put.l0 k x0 x1 (wrap64 (x5 + 1))) else (if (rd x0 x5) = x1 then (some x0) else ((some (([] : List Int) : List Int)).bind fun y322 => (if x5 ≤ (x0.length : Int) then ((some (x0.take (x5 : Int).toNat : List Int)).bind fun y325 => (if y322.length + y325.length < 17592186044416 then ((some (y322 ++ y325 : List Int)).bind fun y329 => (if y329.length < 17592186044416 then ((some (y329 ++ [x1] : List Int)).bind fun y332 => ((some (x0.drop (x5 : Int).toNat : List Int)).bind fun y335 => (if y332.length + y335.length < 17592186044416 then (some (y332 ++ y335)) else (none)))) else (none))) else (none))) else (none))))) else (none)) else ((some (([] : List Int) : List Int)).bind fun y342 => (if 0 ≤ x5 then (if x5 ≤ (x0.length : Int) then ((some (x0.take (x5 : Int).toNat : List Int)).bind fun y345 => (if y342.length + y345.length < 17592186044416 then ((some (y342 ++ y345 : List Int)).bind fun y349 => (if y349.length < 17592186044416 then ((some (y349 ++ [x1] : List Int)).bind fun y352 => ((some (x0.drop (x5 : Int).toNat : List Int)).bind fun y355 => (if y352.length + y355.length < 17592186044416 then (some (y352 ++ y355)) else (none)))) else (none))) else (none))) else (none)) else (none)))
def spec_put.f (k : Nat) (l0 : List Int) (a1 : Int) : Option (List Int) := spec_put.l0 k l0 a1 0
theorem spec_put.mono_l : ∀ k, (∀ y0 y1 y2, LeO (spec_put.l0 k y0 y1 y2) (spec_put.l0 (k + 1) y0 y1 y2))
  | 0 => fun _ _ _ r h => by simp [spec_put.l0] at h
  | k + 1 => by
    have ih0 := spec_put.mono_l k
    · intro y0 y1 y2
      unfold spec_put.l0
      repeat' first
      | (with_reducible exact ih0 _ _ _)
      | (with_reducible exact LeO.refl _)
      | (with_reducible exact LeO.none _)
      | (with_reducible refine LeO.ite ?_ ?_)
      | (with_reducible refine LeO.bind ?_ (fun _ => ?_))
      | exact ih0 _ _ _
      | exact LeO.none _
      | refine LeO.ite ?_ ?_
      | refine LeO.bind ?_ (fun _ => ?_)
theorem spec_put.mono : ∀ a0 a1 k, LeO (spec_put.f k a0 a1) (spec_put.f (k + 1) a0 a1) := by
  intro a0 a1 k
  have ih0 := spec_put.mono_l k
  unfold spec_put.f
  repeat' first
      | (with_reducible exact ih0 _ _ _)
      | (with_reducible exact LeO.refl _)
      | (with_reducible exact LeO.none _)
      | (with_reducible refine LeO.ite ?_ ?_)
      | (with_reducible refine LeO.bind ?_ (fun _ => ?_))
      | exact ih0 _ _ _
      | exact LeO.none _
      | refine LeO.ite ?_ ?_
      | refine LeO.bind ?_ (fun _ => ?_)
set_option maxHeartbeats 8000000 in
set_option maxRecDepth 100000 in
theorem spec_put.calls (k : Nat) (P0_ : Nat → Prop) (u9000_ : Value) (l0 : List Int) (a1 : Int) (r : List Int) (w0 w : World) (hB : Below w0.heap.size w0 w) (ho0 : Kd.R (Kd.int .i64) 3 w w0.heap.size P0_ u9000_ l0) (h : spec_put.f k l0 a1 = some r) :
    Calls Tryz.prog 51 #[u9000_, .int .i64 a1] w fun e w' => ∃ v0_ : Value, e = .returned (v0_) ∧ Kd.R (Kd.int .i64) 3 w' w0.heap.size (fun k_ => (P0_ k_ ∨ w.heap.size ≤ k_)) v0_ r ∧ Below w0.heap.size w0 w' ∧ Kept w w' (fun k_ => P0_ k_) := by
  have HO0 := Aside0.mk (show Kd.R (Kd.int .i64) 3 w w0.heap.size (fun k_ => (P0_ k_ ∨ w.heap.size ≤ k_)) u9000_ l0 from Kd.R_mono ho0 (fun k_ hk => (.inl hk)))
  have HK := Aside0.mk (Kept.refl w (fun k_ => P0_ k_))
  have HW0 := Aside0.mk hB.size
  have HB := Aside0.mk hB
  clear hB
  have H : (spec_put.l0 k l0 a1 0) = some r := h
  clear h
  have H' := Aside0.mk H
  clear H
  go_enter Tryz.func51, Tryz.ntmps51
  go_wp2
  go_loopg [5] k (fun kq v5 w' => ∃ (x5_1 : Int), v5 = .int .i64 x5_1 ∧ Aside0 (spec_put.l0 kq l0 a1 x5_1 = some r) ∧ Aside0 (kq ≤ k) ∧ Aside0 (Kd.R (Kd.int .i64) 3 w' w0.heap.size (fun k_ => (P0_ k_ ∨ w.heap.size ≤ k_)) u9000_ l0) ∧ Aside0 (Kept w w' (fun k_ => P0_ k_)) ∧ Aside0 (Below w0.heap.size w0 w'))
  case atStart => exact ⟨(0), (by first | rfl | (simp; done) | (simp [*]; done)), H', ⟨Nat.le_refl _⟩, ⟨by (with_reducible repeat (first | apply Kd.R_alloc | apply Kd.R_drewN | apply Kd.R_drew)); exact HO0.out⟩, ⟨by repeat (first | (with_reducible first | exact HK.out | apply Kept.alloc | apply Kept.drewN | apply Kept.drew) | exact HK.out)⟩, ⟨by repeat (first | (with_reducible first | exact HB.out | apply below_alloc | apply pw_below_drewN | apply below_drew1) | exact HB.out)⟩⟩
  case round =>
    clear H'
    try clear p2
    obtain ⟨x5_1, rfl, HA, HK1, HO_0, HK, HB⟩ := hrel
    cases gk with
    | zero => exact absurd HA.out (by simp [spec_put.l0])
    | succ k1 =>
      have H := HA.out
      clear HA
      simp only [spec_put.l0] at H
      by_cases c3 : x5_1 < (l0.length : Int)
      · rw [if_pos c3] at H
        have c3b0 : decide (x5_1 < (l0.length : Int)) = true := decide_eq_true c3
        clear c3
        by_cases c4 : 0 ≤ x5_1
        · rw [if_pos c4] at H
          have c4b0 : decide (0 ≤ x5_1) = true := decide_eq_true c4
          clear c4
          by_cases c5 : (rd l0 x5_1) < a1
          · rw [if_pos c5] at H
            have c5b0 : decide ((rd l0 x5_1) < a1) = true := decide_eq_true c5
            clear c5
            have H' := Aside0.mk H
            clear H
            obtain ⟨Ao6, co6, eo6⟩ := Kd.R_slice HO_0.out
            subst eo6
            have p320 : 0 ≤ (x5_1 : Int) := of_decide_eq_true (by first | (with_reducible assumption) | assumption)
            have q320 : x5_1 < (l0.length : Int) := of_decide_eq_true (by first | (with_reducible assumption) | assumption)
            obtain ⟨ad320, e320, hx320_0⟩ := Kd.at_int (Kd.R_reads' HO_0.out).2.2 x5_1 p320 q320
            cases e320
            replace p320 := eq_true p320
            replace q320 := eq_true q320
            go_wp2
            go_roundg k1
            case measure => have := HK1.out; omega
            case rel => exact ⟨(wrap64 (x5_1 + 1)), (by first | rfl | (simp; done) | (simp [*]; done)), H', ⟨by have := HK1.out; omega⟩, ⟨by (with_reducible repeat (first | apply Kd.R_alloc | apply Kd.R_drewN | apply Kd.R_drew)); exact HO_0.out⟩, ⟨by repeat (first | (with_reducible first | exact HK.out | apply Kept.alloc | apply Kept.drewN | apply Kept.drew) | exact HK.out)⟩, ⟨by repeat (first | (with_reducible first | exact HB.out | apply below_alloc | apply pw_below_drewN | apply below_drew1) | exact HB.out)⟩⟩
          · rw [if_neg c5] at H
            have c5b0 : decide ((rd l0 x5_1) < a1) = false := decide_eq_false c5
            clear c5
            by_cases c7 : (rd l0 x5_1) = a1
            · rw [if_pos c7] at H
              have c7b0 : ((rd l0 x5_1) == a1) = true := beq_iff_eq.mpr c7
              have c7b1 : ((rd l0 x5_1) != a1) = false := bne_eq_false_iff_eq.mpr c7
              clear c7
              obtain rfl := Option.some.inj H
              obtain ⟨Ao8, co8, eo8⟩ := Kd.R_slice HO_0.out
              subst eo8
              have p320 : 0 ≤ (x5_1 : Int) := of_decide_eq_true (by first | (with_reducible assumption) | assumption)
              have q320 : x5_1 < (l0.length : Int) := of_decide_eq_true (by first | (with_reducible assumption) | assumption)
              obtain ⟨ad320, e320, hx320_0⟩ := Kd.at_int (Kd.R_reads' HO_0.out).2.2 x5_1 p320 q320
              cases e320
              replace p320 := eq_true p320
              replace q320 := eq_true q320
              have p321 : 0 ≤ (x5_1 : Int) := of_decide_eq_true (by first | (with_reducible assumption) | assumption)
              have q321 : x5_1 < (l0.length : Int) := of_decide_eq_true (by first | (with_reducible assumption) | assumption)
              obtain ⟨ad321, e321, hx321_0⟩ := Kd.at_int (Kd.R_reads' HO_0.out).2.2 x5_1 p321 q321
              obtain rfl : ad320 = ad321 := (by injection e321)
              replace p321 := eq_true p321
              replace q321 := eq_true q321
              go_wp2
              go_ret
              exact ⟨_, by first | rfl | (simp [errW_none, errW_some] <;> rfl) | (simp [*, errW_none, errW_some] <;> rfl), by (with_reducible repeat (first | apply Kd.R_alloc | apply Kd.R_drewN | apply Kd.R_drew)); exact HO_0.out, by repeat (first | (with_reducible first | exact HB.out | apply below_alloc | apply pw_below_drewN | apply below_drew1) | exact HB.out), by repeat (first | (with_reducible first | exact HK.out | apply Kept.alloc | apply Kept.drewN | apply Kept.drew) | exact HK.out)⟩
            · rw [if_neg c7] at H
              have c7b0 : ((rd l0 x5_1) == a1) = false := beq_eq_false_iff_ne.mpr c7
              have c7b1 : ((rd l0 x5_1) != a1) = true := bne_iff_ne.mpr c7
              obtain ⟨y322, hy322⟩ : ∃ y_ : List Int, y_ = (([] : List Int)) := ⟨_, rfl⟩
              replace H : (if x5_1 ≤ (l0.length : Int) then ((some (l0.take (x5_1 : Int).toNat : List Int)).bind fun y325 => (if y322.length + y325.length < 17592186044416 then ((some (y322 ++ y325 : List Int)).bind fun y329 => (if y329.length < 17592186044416 then ((some (y329 ++ [a1] : List Int)).bind fun y332 => ((some (l0.drop (x5_1 : Int).toNat : List Int)).bind fun y335 => (if y332.length + y335.length < 17592186044416 then (some (y332 ++ y335)) else (none)))) else (none))) else (none))) else (none)) = some r := by first | (rw [hy322]; with_reducible exact H) | (have H2_ := (Option.bind_some _ _).symm.trans H; rw [hy322]; with_reducible exact H2_) | (have H2_ := (Option.bind_some _ _).symm.trans H; with_reducible exact H2_) | with_reducible exact H | (rw [hy322]; exact H) | exact H
              have Ny322 := Aside0.mk hy322
              clear hy322
              have c9b0 := eq_true (of_decide_eq_true (by first | (with_reducible assumption) | assumption) : 0 ≤ x5_1)
              by_cases c10 : x5_1 ≤ (l0.length : Int)
              · rw [if_pos c10] at H
                have c10b0 := eq_true c10
                have c10b1 : decide (x5_1 ≤ (l0.length : Int)) = true := decide_eq_true c10
                clear c10
                obtain ⟨y325, hy325⟩ : ∃ y_ : List Int, y_ = (l0.take (x5_1 : Int).toNat) := ⟨_, rfl⟩
                replace H : (if y322.length + y325.length < 17592186044416 then ((some (y322 ++ y325 : List Int)).bind fun y329 => (if y329.length < 17592186044416 then ((some (y329 ++ [a1] : List Int)).bind fun y332 => ((some (l0.drop (x5_1 : Int).toNat : List Int)).bind fun y335 => (if y332.length + y335.length < 17592186044416 then (some (y332 ++ y335)) else (none)))) else (none))) else (none)) = some r := by first | (rw [hy325]; with_reducible exact H) | (have H2_ := (Option.bind_some _ _).symm.trans H; rw [hy325]; with_reducible exact H2_) | (have H2_ := (Option.bind_some _ _).symm.trans H; with_reducible exact H2_) | with_reducible exact H | (rw [hy325]; exact H) | exact H
                have Ny325 := Aside0.mk hy325
                clear hy325
                by_cases c11 : y322.length + y325.length < 17592186044416
                · rw [if_pos c11] at H
                  have LMc11 := Aside0.mk c11
                  clear c11
                  obtain ⟨y329, hy329⟩ : ∃ y_ : List Int, y_ = (y322 ++ y325) := ⟨_, rfl⟩
                  replace H : (if y329.length < 17592186044416 then ((some (y329 ++ [a1] : List Int)).bind fun y332 => ((some (l0.drop (x5_1 : Int).toNat : List Int)).bind fun y335 => (if y332.length + y335.length < 17592186044416 then (some (y332 ++ y335)) else (none)))) else (none)) = some r := by first | (rw [hy329]; with_reducible exact H) | (have H2_ := (Option.bind_some _ _).symm.trans H; rw [hy329]; with_reducible exact H2_) | (have H2_ := (Option.bind_some _ _).symm.trans H; with_reducible exact H2_) | with_reducible exact H | (rw [hy329]; exact H) | exact H
                  have Ny329 := Aside0.mk hy329
                  clear hy329
                  by_cases c12 : y329.length < 17592186044416
                  · rw [if_pos c12] at H
                    have LMc12 := Aside0.mk c12
                    clear c12
                    obtain ⟨y332, hy332⟩ : ∃ y_ : List Int, y_ = (y329 ++ [a1]) := ⟨_, rfl⟩
                    replace H : ((some (l0.drop (x5_1 : Int).toNat : List Int)).bind fun y335 => (if y332.length + y335.length < 17592186044416 then (some (y332 ++ y335)) else (none))) = some r := by first | (rw [hy332]; with_reducible exact H) | (have H2_ := (Option.bind_some _ _).symm.trans H; rw [hy332]; with_reducible exact H2_) | (have H2_ := (Option.bind_some _ _).symm.trans H; with_reducible exact H2_) | with_reducible exact H | (rw [hy332]; exact H) | exact H
                    have Ny332 := Aside0.mk hy332
                    clear hy332
                    have c13b0 := eq_true (of_decide_eq_true (by first | (with_reducible assumption) | assumption) : 0 ≤ x5_1)
                    have c14b0 := eq_true (of_decide_eq_true (by first | (with_reducible assumption) | assumption) : x5_1 ≤ (l0.length : Int))
                    obtain ⟨y335, hy335⟩ : ∃ y_ : List Int, y_ = (l0.drop (x5_1 : Int).toNat) := ⟨_, rfl⟩
                    replace H : (if y332.length + y335.length < 17592186044416 then (some (y332 ++ y335)) else (none)) = some r := by first | (rw [hy335]; with_reducible exact H) | (have H2_ := (Option.bind_some _ _).symm.trans H; rw [hy335]; with_reducible exact H2_) | (have H2_ := (Option.bind_some _ _).symm.trans H; with_reducible exact H2_) | with_reducible exact H | (rw [hy335]; exact H) | exact H
                    have Ny335 := Aside0.mk hy335
                    clear hy335
                    by_cases c15 : y332.length + y335.length < 17592186044416
                    · rw [if_pos c15] at H
                      have LMc15 := Aside0.mk c15
                      clear c15
                      obtain ⟨y339, hy339⟩ : ∃ y_ : List Int, y_ = (y332 ++ y335) := ⟨_, rfl⟩
                      replace H : (some y339) = some r := by first | (rw [hy339]; with_reducible exact H) | (have H2_ := (Option.bind_some _ _).symm.trans H; rw [hy339]; with_reducible exact H2_) | (have H2_ := (Option.bind_some _ _).symm.trans H; with_reducible exact H2_) | with_reducible exact H | (rw [hy339]; exact H) | exact H
                      have Ny339 := Aside0.mk hy339
                      clear hy339
                      obtain rfl := Option.some.inj H
                      obtain ⟨Ao16, co16, eo16⟩ := Kd.R_slice HO_0.out
                      subst eo16
                      have p320 : 0 ≤ (x5_1 : Int) := of_decide_eq_true (by first | (with_reducible assumption) | assumption)
                      have q320 : x5_1 < (l0.length : Int) := of_decide_eq_true (by first | (with_reducible assumption) | assumption)
                      obtain ⟨ad320, e320, hx320_0⟩ := Kd.at_int (Kd.R_reads' HO_0.out).2.2 x5_1 p320 q320
                      cases e320
                      replace p320 := eq_true p320
                      replace q320 := eq_true q320
                      have p321 : 0 ≤ (x5_1 : Int) := of_decide_eq_true (by first | (with_reducible assumption) | assumption)
                      have q321 : x5_1 < (l0.length : Int) := of_decide_eq_true (by first | (with_reducible assumption) | assumption)
                      obtain ⟨ad321, e321, hx321_0⟩ := Kd.at_int (Kd.R_reads' HO_0.out).2.2 x5_1 p321 q321
                      obtain rfl : ad320 = ad321 := (by injection e321)
                      replace p321 := eq_true p321
                      replace q321 := eq_true q321
                      go_wp2_with (first | ((with_reducible refine gate_dst (N := 34) rfl ?_); refine Kd.R_lit (Kd.int .i64) _ 3 ?hg (N := 34) ?hd (xs := ([] : List Int)) (inner := []) (ok := fun _ => True) (okp := fun _ => True) ?hr ?hp (fun _ hk => hk) trivial (Below.refl _ _) (Nat.le_refl _) (by simp) ?_; (case hd => rfl); (case hg => rfl); (case hr => first | (go_simp; done) | (go_simp; rfl)); (case hp => exact (Reps.none _ _)); intro v323 w17 ho18 hb hg_ hnew_; clear hg_ hnew_; (first | rw [← Ny322.out] at ho18 | (simp only [Int.reduceToNat] at ho18; rw [← Ny322.out] at ho18)); have n0_ := Aside0.mk (Kd.R_elder' (XR HO_0.out) (Kd.R_base ho18) hb); have n1_ := Aside0.mk (Kd.R_lower (Kd.R_new' (Kd.R_newM (M := fun k_ => (P0_ k_ ∨ w.heap.size ≤ k_)) ho18 (by first | exact HK.out.1 | exact (show Kept w _ (fun k_ => P0_ k_) from by repeat (first | (with_reducible first | exact HK.out | apply Kept.alloc | apply Kept.drewN | apply Kept.drew) | exact HK.out)).1) (fun k_ h_ => .inr h_)) (Kd.R_lt (XR HO_0.out))) (below_size (Xb HB.out))); have n2_ := Aside0.mk (Kept.below (S := (fun k_ => P0_ k_)) (by repeat (first | (with_reducible first | exact HK.out | apply Kept.alloc | apply Kept.drewN | apply Kept.drew) | exact HK.out)) hb); have n3_ := Aside0.mk (below_step (Xb HB.out) hb); clear HO_0; clear HK; clear HB; have HO_0 := n0_; have HO324 := n1_; have HK := n2_; have HB := n3_; clear n0_ n1_ n2_ n3_; clear hb ho18; have q19 : (x5_1 : Int) ≤ ((l0.length : Int) : Int) := of_decide_eq_true (by first | (with_reducible assumption) | assumption); obtain ⟨i019, hi019, _, hsz19, _⟩ := info_parts info3; have hroom19 : l0.length ≤ co16 := (Kd.R_reads' HO_0.out).2.1; have hC19 : Kd.C (Kd.int .i64) _ (some ad320) l0.length l0 := (Kd.R_reads' HO_0.out).2.2; have hcut19 := cut_to (P := Tryz.prog) 44 3 .i64 Tryz.underlying44 hi019 (some ad320) l0.length co16 x5_1 (of_decide_eq_true (by first | (with_reducible assumption) | assumption)) q19 hroom19; have hr19 := Kd.C_take (m := (x5_1 : Int).toNat) hC19 (by omega); have hy19 : y325.length = (x5_1 : Int).toNat := (by rw [Ny325.out, List.length_take]; omega); rw [← Ny325.out] at hr19; rw [← hy19] at hcut19; have HR328 := Aside0.mk hr19; have HC328 := Aside0.mk (show y325.length ≤ co16 from by omega); clear hr19 hC19 hroom19 hi019 hsz19; have KY19 := Aside0.mk hy19; clear hy19; have KL19 := Aside0.mk (show (x5_1 : Int).toNat ≤ l0.length from by omega); replace q19 := eq_true q19) | ((with_reducible refine gate_builtin (b := .append) (xs := #[.tmp 34, .tmp 37]) rfl ?_); at_builtin; refine Kd.R_append_rows (Kd.int .i64) (w0 := w0) w0.heap.size rfl (.tmp 34) (.tmp 37) 44 3 (.int .i64 0) 8 rfl Tryz.underlying44 info3 rfl (by decide) (by omega) v323 y322 y325 _ _ _ (fun k_ => (P0_ k_ ∨ w.heap.size ≤ k_) ∧ some k_ ≠ (.slice (some ad320) l0.length co16 : Value).ownBlock) (fun _ => False) rfl rfl ?aO ?aR (fun _ _ h => h) (fun _ h => h.elim) ?aF ?aB ?aS ?aL ?_; (case aR => repeat (first | exact (by repeat (first | (with_reducible exact HR328.out) | (with_reducible refine Kd.C_alloc ?_ _) | (with_reducible refine Kd.C_drewN ?_ _) | (with_reducible refine Kd.C_drew ?_) | exact HR328.out)) | (with_reducible refine Kd.C_alloc ?_ _) | (with_reducible refine Kd.C_drewN ?_ _) | (with_reducible refine Kd.C_drew ?_))); (case aB => exact (Xb HB.out)); (case aF => exact (fun k_ hk => ⟨(.inr (Nat.le_trans (by first | exact HK.out.1 | exact (show Kept w _ (fun k_ => P0_ k_) from by repeat (first | (with_reducible first | exact HK.out | apply Kept.alloc | apply Kept.drewN | apply Kept.drew) | exact HK.out)).1) hk)), Kd.fresh' (Kd.R_lt (XR HO_0.out)) k_ hk⟩)); (case aO => exact (by (with_reducible repeat (first | apply Kd.R_alloc | apply Kd.R_drewN | apply Kd.R_drew)); exact Kd.R_mono HO324.out (fun _ hk => ⟨hk.1.1, hk.2⟩))); (case aS => exact (below_size (Xb HB.out))); (case aL => have := LMc11.out; omega); intro v330 w20 ho hb hg hat; rw [← Ny329.out] at ho; have n0_ := Aside0.mk (Kd.R_after (ok := (fun k_ => (P0_ k_ ∨ w.heap.size ≤ k_))) (XR HO_0.out) hg hat); have n1_ := Aside0.mk (hb); have n2_ := Aside0.mk (Kept.of_grown (S := (fun k_ => P0_ k_)) hg (by repeat (first | (with_reducible first | exact HK.out | apply Kept.alloc | apply Kept.drewN | apply Kept.drew) | exact HK.out)) (fun k_ e_ => (HO324.out.1 k_ e_).1.1)); have n3_ := Aside0.mk ((show Kd.C (Kd.int .i64) w20 (some ad320) y325.length y325 from by rw [Ny325.out]; exact Kd.C_take (m := (x5_1 : Int).toNat) ((Kd.R_reads' (Kd.R_after (ok := (fun k_ => (P0_ k_ ∨ w.heap.size ≤ k_))) (XR HO_0.out) hg hat)).2.2) KL19.out)); have n4_ := Aside0.mk (ho); clear HO_0; clear HB; clear HK; clear HR328; clear HO324; have HO_0 := n0_; have HB := n1_; have HK := n2_; have HR328 := n3_; have HO331 := n4_; clear n0_ n1_ n2_ n3_ n4_; clear ho hb hg hat) | ((with_reducible refine gate_builtin (b := .append) (xs := #[.tmp 39, .tmp 41]) rfl ?_); at_builtin; refine Kd.R_append (Kd.int .i64) (w0 := w0) w0.heap.size rfl (.tmp 39) (.tmp 41) 44 3 (.int .i64 0) 8 rfl Tryz.underlying44 info3 rfl (by decide) (by omega) v330 y329 a1 [.int .i64 a1] (fun k_ => (P0_ k_ ∨ w.heap.size ≤ k_) ∧ some k_ ≠ (.slice (some ad320) l0.length co16 : Value).ownBlock) (fun _ => False) rfl rfl ?aP (fun _ hk => hk.elim) ?aF ?aO ?aB ?aS ?aL ?_; (case aP => exact rfl); (case aB => exact (Xb HB.out)); (case aF => exact (fun k_ hk => ⟨(.inr (Nat.le_trans (by first | exact HK.out.1 | exact (show Kept w _ (fun k_ => P0_ k_) from by repeat (first | (with_reducible first | exact HK.out | apply Kept.alloc | apply Kept.drewN | apply Kept.drew) | exact HK.out)).1) hk)), Kd.fresh' (Kd.R_lt (XR HO_0.out)) k_ hk⟩)); (case aO => exact (XR HO331.out)); (case aS => exact (below_size (Xb HB.out))); (case aL => have := LMc12.out; omega); intro v333 w21 ho hb hg hat; rw [← Ny332.out] at ho; have n0_ := Aside0.mk (Kd.R_after (ok := (fun k_ => (P0_ k_ ∨ w.heap.size ≤ k_))) (XR HO_0.out) hg hat); have n1_ := Aside0.mk (hb); have n2_ := Aside0.mk (Kept.of_grown (S := (fun k_ => P0_ k_)) hg (by repeat (first | (with_reducible first | exact HK.out | apply Kept.alloc | apply Kept.drewN | apply Kept.drew) | exact HK.out)) (fun k_ e_ => (HO331.out.1 k_ e_).1)); have n3_ := Aside0.mk ((show Kd.C (Kd.int .i64) w21 (some ad320) y325.length y325 from by rw [Ny325.out]; exact Kd.C_take (m := (x5_1 : Int).toNat) ((Kd.R_reads' (Kd.R_after (ok := (fun k_ => (P0_ k_ ∨ w.heap.size ≤ k_))) (XR HO_0.out) hg hat)).2.2) KL19.out)); have n4_ := Aside0.mk (ho); clear HO_0; clear HB; clear HK; clear HR328; clear HO331; have HO_0 := n0_; have HB := n1_; have HK := n2_; have HR328 := n3_; have HO334 := n4_; clear n0_ n1_ n2_ n3_ n4_; clear ho hb hg hat; have q22 : (x5_1 : Int) ≤ ((l0.length : Int) : Int) := of_decide_eq_true (by first | (with_reducible assumption) | assumption); obtain ⟨i022, hi022, _, hsz22, _⟩ := info_parts info3; have hroom22 : l0.length ≤ co16 := (Kd.R_reads' HO_0.out).2.1; have hC22 : Kd.C (Kd.int .i64) _ (some ad320) l0.length l0 := (Kd.R_reads' HO_0.out).2.2; have q022 : (0 : Int) ≤ (x5_1 : Int) := of_decide_eq_true (by first | (with_reducible assumption) | assumption); have hcut22 := cut_from (P := Tryz.prog) 44 3 .i64 Tryz.underlying44 hi022 1 hsz22 (some ad320) l0.length co16 x5_1 q022 q22; have hr22 := Kd.C_drop (m := (x5_1 : Int).toNat) (c := co16) hC22 (by omega) hroom22; obtain ⟨A22, hA22⟩ : ∃ A1, A1 = (if co16 = (x5_1 : Int).toNat then (some ad320) else ((some ad320) : Option Addr).map (·.add ((x5_1 : Int).toNat * 1))) := ⟨_, rfl⟩; obtain ⟨c22, hc22⟩ : ∃ c1, c1 = co16 - (x5_1 : Int).toNat := ⟨_, rfl⟩; have hy22 : y335.length = l0.length - (x5_1 : Int).toNat := (by rw [Ny335.out, List.length_drop] <;> omega); rw [show (l0).drop (x5_1 : Int).toNat = y335 from Ny335.out.symm] at hr22; replace hr22 : Kd.C (Kd.int .i64) _ A22 y335.length y335 := (by rw [hA22]; exact hr22); rw [← hy22, ← hA22, ← hc22] at hcut22; have HR338 := Aside0.mk hr22; have HC338 := Aside0.mk (show y335.length ≤ c22 from by rw [hy22, hc22]; exact Nat.sub_le_sub_right hroom22 _); clear hr22 hC22 hroom22 hi022 hsz22 hc22; have KY22 := Aside0.mk hy22; have KA22 := Aside0.mk hA22; clear hy22 hA22; have KL22 := Aside0.mk (show (x5_1 : Int).toNat ≤ l0.length from by omega); replace q22 := eq_true q22) | ((with_reducible refine gate_builtin (b := .append) (xs := #[.tmp 43, .tmp 46]) rfl ?_); at_builtin; refine Kd.R_append_rows (Kd.int .i64) (w0 := w0) w0.heap.size rfl (.tmp 43) (.tmp 46) 44 3 (.int .i64 0) 8 rfl Tryz.underlying44 info3 rfl (by decide) (by omega) v333 y332 y335 _ _ _ (fun k_ => (P0_ k_ ∨ w.heap.size ≤ k_) ∧ some k_ ≠ (.slice (some ad320) l0.length co16 : Value).ownBlock) (fun _ => False) rfl rfl ?aO ?aR (fun _ _ h => h) (fun _ h => h.elim) ?aF ?aB ?aS ?aL ?_; (case aR => repeat (first | exact (by repeat (first | (with_reducible exact HR338.out) | (with_reducible refine Kd.C_alloc ?_ _) | (with_reducible refine Kd.C_drewN ?_ _) | (with_reducible refine Kd.C_drew ?_) | exact HR338.out)) | (with_reducible refine Kd.C_alloc ?_ _) | (with_reducible refine Kd.C_drewN ?_ _) | (with_reducible refine Kd.C_drew ?_))); (case aB => exact (Xb HB.out)); (case aF => exact (fun k_ hk => ⟨(.inr (Nat.le_trans (by first | exact HK.out.1 | exact (show Kept w _ (fun k_ => P0_ k_) from by repeat (first | (with_reducible first | exact HK.out | apply Kept.alloc | apply Kept.drewN | apply Kept.drew) | exact HK.out)).1) hk)), Kd.fresh' (Kd.R_lt (XR HO_0.out)) k_ hk⟩)); (case aO => exact (XR HO334.out)); (case aS => exact (below_size (Xb HB.out))); (case aL => have := LMc15.out; omega); intro v340 w23 ho hb hg hat; rw [← Ny339.out] at ho; have n0_ := Aside0.mk (Kd.R_after (ok := (fun k_ => (P0_ k_ ∨ w.heap.size ≤ k_))) (XR HO_0.out) hg hat); have n1_ := Aside0.mk (hb); have n2_ := Aside0.mk (Kept.of_grown (S := (fun k_ => P0_ k_)) hg (by repeat (first | (with_reducible first | exact HK.out | apply Kept.alloc | apply Kept.drewN | apply Kept.drew) | exact HK.out)) (fun k_ e_ => (HO334.out.1 k_ e_).1)); have n3_ := Aside0.mk ((show Kd.C (Kd.int .i64) w23 (some ad320) y325.length y325 from by rw [Ny325.out]; exact Kd.C_take (m := (x5_1 : Int).toNat) ((Kd.R_reads' (Kd.R_after (ok := (fun k_ => (P0_ k_ ∨ w.heap.size ≤ k_))) (XR HO_0.out) hg hat)).2.2) KL19.out)); have n4_ := Aside0.mk ((show Kd.C (Kd.int .i64) w23 A22 y335.length y335 from by rw [Ny335.out, KA22.out]; exact Kd.C_drop (m := (x5_1 : Int).toNat) (c := co16) ((Kd.R_reads' (Kd.R_after (ok := (fun k_ => (P0_ k_ ∨ w.heap.size ≤ k_))) (XR HO_0.out) hg hat)).2.2) KL22.out ((Kd.R_reads' (Kd.R_after (ok := (fun k_ => (P0_ k_ ∨ w.heap.size ≤ k_))) (XR HO_0.out) hg hat)).2.1))); have n5_ := Aside0.mk (ho); clear HO_0; clear HB; clear HK; clear HR328; clear HR338; clear HO334; have HO_0 := n0_; have HB := n1_; have HK := n2_; have HR328 := n3_; have HR338 := n4_; have HO341 := n5_; clear n0_ n1_ n2_ n3_ n4_ n5_; clear ho hb hg hat))
                      go_ret
                      exact ⟨_, by first | rfl | (simp [errW_none, errW_some] <;> rfl) | (simp [*, errW_none, errW_some] <;> rfl), by (with_reducible repeat (first | apply Kd.R_alloc | apply Kd.R_drewN | apply Kd.R_drew)); exact Kd.R_mono HO341.out (fun _ hk => hk.1), by repeat (first | (with_reducible first | exact HB.out | apply below_alloc | apply pw_below_drewN | apply below_drew1) | exact HB.out), by repeat (first | (with_reducible first | exact HK.out | apply Kept.alloc | apply Kept.drewN | apply Kept.drew) | exact HK.out)⟩
                    · rw [if_neg c15] at H
                      exact absurd H (by simp)
                  · rw [if_neg c12] at H
                    exact absurd H (by simp)
                · rw [if_neg c11] at H
                  exact absurd H (by simp)
              · rw [if_neg c10] at H
                exact absurd H (by simp)
        · rw [if_neg c4] at H
          exact absurd H (by simp)
      · rw [if_neg c3] at H
        have c3b0 : decide (x5_1 < (l0.length : Int)) = false := decide_eq_false c3
        clear c3
        obtain ⟨y342, hy342⟩ : ∃ y_ : List Int, y_ = (([] : List Int)) := ⟨_, rfl⟩
        replace H : (if 0 ≤ x5_1 then (if x5_1 ≤ (l0.length : Int) then ((some (l0.take (x5_1 : Int).toNat : List Int)).bind fun y345 => (if y342.length + y345.length < 17592186044416 then ((some (y342 ++ y345 : List Int)).bind fun y349 => (if y349.length < 17592186044416 then ((some (y349 ++ [a1] : List Int)).bind fun y352 => ((some (l0.drop (x5_1 : Int).toNat : List Int)).bind fun y355 => (if y352.length + y355.length < 17592186044416 then (some (y352 ++ y355)) else (none)))) else (none))) else (none))) else (none)) else (none)) = some r := by first | (rw [hy342]; with_reducible exact H) | (have H2_ := (Option.bind_some _ _).symm.trans H; rw [hy342]; with_reducible exact H2_) | (have H2_ := (Option.bind_some _ _).symm.trans H; with_reducible exact H2_) | with_reducible exact H | (rw [hy342]; exact H) | exact H
        have Ny342 := Aside0.mk hy342
        clear hy342
        by_cases c24 : 0 ≤ x5_1
        · rw [if_pos c24] at H
          have c24b0 := eq_true c24
          have c24b1 : decide (0 ≤ x5_1) = true := decide_eq_true c24
          clear c24
          by_cases c25 : x5_1 ≤ (l0.length : Int)
          · rw [if_pos c25] at H
            have c25b0 := eq_true c25
            have c25b1 : decide (x5_1 ≤ (l0.length : Int)) = true := decide_eq_true c25
            clear c25
            obtain ⟨y345, hy345⟩ : ∃ y_ : List Int, y_ = (l0.take (x5_1 : Int).toNat) := ⟨_, rfl⟩
            replace H : (if y342.length + y345.length < 17592186044416 then ((some (y342 ++ y345 : List Int)).bind fun y349 => (if y349.length < 17592186044416 then ((some (y349 ++ [a1] : List Int)).bind fun y352 => ((some (l0.drop (x5_1 : Int).toNat : List Int)).bind fun y355 => (if y352.length + y355.length < 17592186044416 then (some (y352 ++ y355)) else (none)))) else (none))) else (none)) = some r := by first | (rw [hy345]; with_reducible exact H) | (have H2_ := (Option.bind_some _ _).symm.trans H; rw [hy345]; with_reducible exact H2_) | (have H2_ := (Option.bind_some _ _).symm.trans H; with_reducible exact H2_) | with_reducible exact H | (rw [hy345]; exact H) | exact H
            have Ny345 := Aside0.mk hy345
            clear hy345
            by_cases c26 : y342.length + y345.length < 17592186044416
            · rw [if_pos c26] at H
              have LMc26 := Aside0.mk c26
              clear c26
              obtain ⟨y349, hy349⟩ : ∃ y_ : List Int, y_ = (y342 ++ y345) := ⟨_, rfl⟩
              replace H : (if y349.length < 17592186044416 then ((some (y349 ++ [a1] : List Int)).bind fun y352 => ((some (l0.drop (x5_1 : Int).toNat : List Int)).bind fun y355 => (if y352.length + y355.length < 17592186044416 then (some (y352 ++ y355)) else (none)))) else (none)) = some r := by first | (rw [hy349]; with_reducible exact H) | (have H2_ := (Option.bind_some _ _).symm.trans H; rw [hy349]; with_reducible exact H2_) | (have H2_ := (Option.bind_some _ _).symm.trans H; with_reducible exact H2_) | with_reducible exact H | (rw [hy349]; exact H) | exact H
              have Ny349 := Aside0.mk hy349
              clear hy349
              by_cases c27 : y349.length < 17592186044416
              · rw [if_pos c27] at H
                have LMc27 := Aside0.mk c27
                clear c27
                obtain ⟨y352, hy352⟩ : ∃ y_ : List Int, y_ = (y349 ++ [a1]) := ⟨_, rfl⟩
                replace H : ((some (l0.drop (x5_1 : Int).toNat : List Int)).bind fun y355 => (if y352.length + y355.length < 17592186044416 then (some (y352 ++ y355)) else (none))) = some r := by first | (rw [hy352]; with_reducible exact H) | (have H2_ := (Option.bind_some _ _).symm.trans H; rw [hy352]; with_reducible exact H2_) | (have H2_ := (Option.bind_some _ _).symm.trans H; with_reducible exact H2_) | with_reducible exact H | (rw [hy352]; exact H) | exact H
                have Ny352 := Aside0.mk hy352
                clear hy352
                have c28b0 := eq_true (of_decide_eq_true (by first | (with_reducible assumption) | assumption) : 0 ≤ x5_1)
                have c29b0 := eq_true (of_decide_eq_true (by first | (with_reducible assumption) | assumption) : x5_1 ≤ (l0.length : Int))
                obtain ⟨y355, hy355⟩ : ∃ y_ : List Int, y_ = (l0.drop (x5_1 : Int).toNat) := ⟨_, rfl⟩
                replace H : (if y352.length + y355.length < 17592186044416 then (some (y352 ++ y355)) else (none)) = some r := by first | (rw [hy355]; with_reducible exact H) | (have H2_ := (Option.bind_some _ _).symm.trans H; rw [hy355]; with_reducible exact H2_) | (have H2_ := (Option.bind_some _ _).symm.trans H; with_reducible exact H2_) | with_reducible exact H | (rw [hy355]; exact H) | exact H
                have Ny355 := Aside0.mk hy355
                clear hy355
                by_cases c30 : y352.length + y355.length < 17592186044416
                · rw [if_pos c30] at H
                  have LMc30 := Aside0.mk c30
                  clear c30
                  obtain ⟨y359, hy359⟩ : ∃ y_ : List Int, y_ = (y352 ++ y355) := ⟨_, rfl⟩
                  replace H : (some y359) = some r := by first | (rw [hy359]; with_reducible exact H) | (have H2_ := (Option.bind_some _ _).symm.trans H; rw [hy359]; with_reducible exact H2_) | (have H2_ := (Option.bind_some _ _).symm.trans H; with_reducible exact H2_) | with_reducible exact H | (rw [hy359]; exact H) | exact H
                  have Ny359 := Aside0.mk hy359
                  clear hy359
                  obtain rfl := Option.some.inj H
                  obtain ⟨Ao31, co31, eo31⟩ := Kd.R_slice HO_0.out
                  subst eo31
                  go_wp2_with (first | ((with_reducible refine gate_dst (N := 34) rfl ?_); refine Kd.R_lit (Kd.int .i64) _ 3 ?hg (N := 34) ?hd (xs := ([] : List Int)) (inner := []) (ok := fun _ => True) (okp := fun _ => True) ?hr ?hp (fun _ hk => hk) trivial (Below.refl _ _) (Nat.le_refl _) (by simp) ?_; (case hd => rfl); (case hg => rfl); (case hr => first | (go_simp; done) | (go_simp; rfl)); (case hp => exact (Reps.none _ _)); intro v343 w32 ho33 hb hg_ hnew_; clear hg_ hnew_; (first | rw [← Ny342.out] at ho33 | (simp only [Int.reduceToNat] at ho33; rw [← Ny342.out] at ho33)); have n0_ := Aside0.mk (Kd.R_elder' (XR HO_0.out) (Kd.R_base ho33) hb); have n1_ := Aside0.mk (Kd.R_lower (Kd.R_new' (Kd.R_newM (M := fun k_ => (P0_ k_ ∨ w.heap.size ≤ k_)) ho33 (by first | exact HK.out.1 | exact (show Kept w _ (fun k_ => P0_ k_) from by repeat (first | (with_reducible first | exact HK.out | apply Kept.alloc | apply Kept.drewN | apply Kept.drew) | exact HK.out)).1) (fun k_ h_ => .inr h_)) (Kd.R_lt (XR HO_0.out))) (below_size (Xb HB.out))); have n2_ := Aside0.mk (Kept.below (S := (fun k_ => P0_ k_)) (by repeat (first | (with_reducible first | exact HK.out | apply Kept.alloc | apply Kept.drewN | apply Kept.drew) | exact HK.out)) hb); have n3_ := Aside0.mk (below_step (Xb HB.out) hb); clear HO_0; clear HK; clear HB; have HO_0 := n0_; have HO344 := n1_; have HK := n2_; have HB := n3_; clear n0_ n1_ n2_ n3_; clear hb ho33; have q34 : (x5_1 : Int) ≤ ((l0.length : Int) : Int) := of_decide_eq_true (by first | (with_reducible assumption) | assumption); obtain ⟨i034, hi034, _, hsz34, _⟩ := info_parts info3; have hroom34 : l0.length ≤ co31 := (Kd.R_reads' HO_0.out).2.1; have hC34 : Kd.C (Kd.int .i64) _ Ao31 l0.length l0 := (Kd.R_reads' HO_0.out).2.2; have hcut34 := cut_to (P := Tryz.prog) 44 3 .i64 Tryz.underlying44 hi034 Ao31 l0.length co31 x5_1 (of_decide_eq_true (by first | (with_reducible assumption) | assumption)) q34 hroom34; have hr34 := Kd.C_take (m := (x5_1 : Int).toNat) hC34 (by omega); have hy34 : y345.length = (x5_1 : Int).toNat := (by rw [Ny345.out, List.length_take]; omega); rw [← Ny345.out] at hr34; rw [← hy34] at hcut34; have HR348 := Aside0.mk hr34; have HC348 := Aside0.mk (show y345.length ≤ co31 from by omega); clear hr34 hC34 hroom34 hi034 hsz34; have KY34 := Aside0.mk hy34; clear hy34; have KL34 := Aside0.mk (show (x5_1 : Int).toNat ≤ l0.length from by omega); replace q34 := eq_true q34) | ((with_reducible refine gate_builtin (b := .append) (xs := #[.tmp 34, .tmp 37]) rfl ?_); at_builtin; refine Kd.R_append_rows (Kd.int .i64) (w0 := w0) w0.heap.size rfl (.tmp 34) (.tmp 37) 44 3 (.int .i64 0) 8 rfl Tryz.underlying44 info3 rfl (by decide) (by omega) v343 y342 y345 _ _ _ (fun k_ => (P0_ k_ ∨ w.heap.size ≤ k_) ∧ some k_ ≠ (.slice Ao31 l0.length co31 : Value).ownBlock) (fun _ => False) rfl rfl ?aO ?aR (fun _ _ h => h) (fun _ h => h.elim) ?aF ?aB ?aS ?aL ?_; (case aR => repeat (first | exact (by repeat (first | (with_reducible exact HR348.out) | (with_reducible refine Kd.C_alloc ?_ _) | (with_reducible refine Kd.C_drewN ?_ _) | (with_reducible refine Kd.C_drew ?_) | exact HR348.out)) | (with_reducible refine Kd.C_alloc ?_ _) | (with_reducible refine Kd.C_drewN ?_ _) | (with_reducible refine Kd.C_drew ?_))); (case aB => exact (Xb HB.out)); (case aF => exact (fun k_ hk => ⟨(.inr (Nat.le_trans (by first | exact HK.out.1 | exact (show Kept w _ (fun k_ => P0_ k_) from by repeat (first | (with_reducible first | exact HK.out | apply Kept.alloc | apply Kept.drewN | apply Kept.drew) | exact HK.out)).1) hk)), Kd.fresh' (Kd.R_lt (XR HO_0.out)) k_ hk⟩)); (case aO => exact (by (with_reducible repeat (first | apply Kd.R_alloc | apply Kd.R_drewN | apply Kd.R_drew)); exact Kd.R_mono HO344.out (fun _ hk => ⟨hk.1.1, hk.2⟩))); (case aS => exact (below_size (Xb HB.out))); (case aL => have := LMc26.out; omega); intro v350 w35 ho hb hg hat; rw [← Ny349.out] at ho; have n0_ := Aside0.mk (Kd.R_after (ok := (fun k_ => (P0_ k_ ∨ w.heap.size ≤ k_))) (XR HO_0.out) hg hat); have n1_ := Aside0.mk (hb); have n2_ := Aside0.mk (Kept.of_grown (S := (fun k_ => P0_ k_)) hg (by repeat (first | (with_reducible first | exact HK.out | apply Kept.alloc | apply Kept.drewN | apply Kept.drew) | exact HK.out)) (fun k_ e_ => (HO344.out.1 k_ e_).1.1)); have n3_ := Aside0.mk ((show Kd.C (Kd.int .i64) w35 Ao31 y345.length y345 from by rw [Ny345.out]; exact Kd.C_take (m := (x5_1 : Int).toNat) ((Kd.R_reads' (Kd.R_after (ok := (fun k_ => (P0_ k_ ∨ w.heap.size ≤ k_))) (XR HO_0.out) hg hat)).2.2) KL34.out)); have n4_ := Aside0.mk (ho); clear HO_0; clear HB; clear HK; clear HR348; clear HO344; have HO_0 := n0_; have HB := n1_; have HK := n2_; have HR348 := n3_; have HO351 := n4_; clear n0_ n1_ n2_ n3_ n4_; clear ho hb hg hat) | ((with_reducible refine gate_builtin (b := .append) (xs := #[.tmp 39, .tmp 41]) rfl ?_); at_builtin; refine Kd.R_append (Kd.int .i64) (w0 := w0) w0.heap.size rfl (.tmp 39) (.tmp 41) 44 3 (.int .i64 0) 8 rfl Tryz.underlying44 info3 rfl (by decide) (by omega) v350 y349 a1 [.int .i64 a1] (fun k_ => (P0_ k_ ∨ w.heap.size ≤ k_) ∧ some k_ ≠ (.slice Ao31 l0.length co31 : Value).ownBlock) (fun _ => False) rfl rfl ?aP (fun _ hk => hk.elim) ?aF ?aO ?aB ?aS ?aL ?_; (case aP => exact rfl); (case aB => exact (Xb HB.out)); (case aF => exact (fun k_ hk => ⟨(.inr (Nat.le_trans (by first | exact HK.out.1 | exact (show Kept w _ (fun k_ => P0_ k_) from by repeat (first | (with_reducible first | exact HK.out | apply Kept.alloc | apply Kept.drewN | apply Kept.drew) | exact HK.out)).1) hk)), Kd.fresh' (Kd.R_lt (XR HO_0.out)) k_ hk⟩)); (case aO => exact (XR HO351.out)); (case aS => exact (below_size (Xb HB.out))); (case aL => have := LMc27.out; omega); intro v353 w36 ho hb hg hat; rw [← Ny352.out] at ho; have n0_ := Aside0.mk (Kd.R_after (ok := (fun k_ => (P0_ k_ ∨ w.heap.size ≤ k_))) (XR HO_0.out) hg hat); have n1_ := Aside0.mk (hb); have n2_ := Aside0.mk (Kept.of_grown (S := (fun k_ => P0_ k_)) hg (by repeat (first | (with_reducible first | exact HK.out | apply Kept.alloc | apply Kept.drewN | apply Kept.drew) | exact HK.out)) (fun k_ e_ => (HO351.out.1 k_ e_).1)); have n3_ := Aside0.mk ((show Kd.C (Kd.int .i64) w36 Ao31 y345.length y345 from by rw [Ny345.out]; exact Kd.C_take (m := (x5_1 : Int).toNat) ((Kd.R_reads' (Kd.R_after (ok := (fun k_ => (P0_ k_ ∨ w.heap.size ≤ k_))) (XR HO_0.out) hg hat)).2.2) KL34.out)); have n4_ := Aside0.mk (ho); clear HO_0; clear HB; clear HK; clear HR348; clear HO351; have HO_0 := n0_; have HB := n1_; have HK := n2_; have HR348 := n3_; have HO354 := n4_; clear n0_ n1_ n2_ n3_ n4_; clear ho hb hg hat; have q37 : (x5_1 : Int) ≤ ((l0.length : Int) : Int) := of_decide_eq_true (by first | (with_reducible assumption) | assumption); obtain ⟨i037, hi037, _, hsz37, _⟩ := info_parts info3; have hroom37 : l0.length ≤ co31 := (Kd.R_reads' HO_0.out).2.1; have hC37 : Kd.C (Kd.int .i64) _ Ao31 l0.length l0 := (Kd.R_reads' HO_0.out).2.2; have q037 : (0 : Int) ≤ (x5_1 : Int) := of_decide_eq_true (by first | (with_reducible assumption) | assumption); have hcut37 := cut_from (P := Tryz.prog) 44 3 .i64 Tryz.underlying44 hi037 1 hsz37 Ao31 l0.length co31 x5_1 q037 q37; have hr37 := Kd.C_drop (m := (x5_1 : Int).toNat) (c := co31) hC37 (by omega) hroom37; obtain ⟨A37, hA37⟩ : ∃ A1, A1 = (if co31 = (x5_1 : Int).toNat then Ao31 else (Ao31 : Option Addr).map (·.add ((x5_1 : Int).toNat * 1))) := ⟨_, rfl⟩; obtain ⟨c37, hc37⟩ : ∃ c1, c1 = co31 - (x5_1 : Int).toNat := ⟨_, rfl⟩; have hy37 : y355.length = l0.length - (x5_1 : Int).toNat := (by rw [Ny355.out, List.length_drop] <;> omega); rw [show (l0).drop (x5_1 : Int).toNat = y355 from Ny355.out.symm] at hr37; replace hr37 : Kd.C (Kd.int .i64) _ A37 y355.length y355 := (by rw [hA37]; exact hr37); rw [← hy37, ← hA37, ← hc37] at hcut37; have HR358 := Aside0.mk hr37; have HC358 := Aside0.mk (show y355.length ≤ c37 from by rw [hy37, hc37]; exact Nat.sub_le_sub_right hroom37 _); clear hr37 hC37 hroom37 hi037 hsz37 hc37; have KY37 := Aside0.mk hy37; have KA37 := Aside0.mk hA37; clear hy37 hA37; have KL37 := Aside0.mk (show (x5_1 : Int).toNat ≤ l0.length from by omega); replace q37 := eq_true q37) | ((with_reducible refine gate_builtin (b := .append) (xs := #[.tmp 43, .tmp 46]) rfl ?_); at_builtin; refine Kd.R_append_rows (Kd.int .i64) (w0 := w0) w0.heap.size rfl (.tmp 43) (.tmp 46) 44 3 (.int .i64 0) 8 rfl Tryz.underlying44 info3 rfl (by decide) (by omega) v353 y352 y355 _ _ _ (fun k_ => (P0_ k_ ∨ w.heap.size ≤ k_) ∧ some k_ ≠ (.slice Ao31 l0.length co31 : Value).ownBlock) (fun _ => False) rfl rfl ?aO ?aR (fun _ _ h => h) (fun _ h => h.elim) ?aF ?aB ?aS ?aL ?_; (case aR => repeat (first | exact (by repeat (first | (with_reducible exact HR358.out) | (with_reducible refine Kd.C_alloc ?_ _) | (with_reducible refine Kd.C_drewN ?_ _) | (with_reducible refine Kd.C_drew ?_) | exact HR358.out)) | (with_reducible refine Kd.C_alloc ?_ _) | (with_reducible refine Kd.C_drewN ?_ _) | (with_reducible refine Kd.C_drew ?_))); (case aB => exact (Xb HB.out)); (case aF => exact (fun k_ hk => ⟨(.inr (Nat.le_trans (by first | exact HK.out.1 | exact (show Kept w _ (fun k_ => P0_ k_) from by repeat (first | (with_reducible first | exact HK.out | apply Kept.alloc | apply Kept.drewN | apply Kept.drew) | exact HK.out)).1) hk)), Kd.fresh' (Kd.R_lt (XR HO_0.out)) k_ hk⟩)); (case aO => exact (XR HO354.out)); (case aS => exact (below_size (Xb HB.out))); (case aL => have := LMc30.out; omega); intro v360 w38 ho hb hg hat; rw [← Ny359.out] at ho; have n0_ := Aside0.mk (Kd.R_after (ok := (fun k_ => (P0_ k_ ∨ w.heap.size ≤ k_))) (XR HO_0.out) hg hat); have n1_ := Aside0.mk (hb); have n2_ := Aside0.mk (Kept.of_grown (S := (fun k_ => P0_ k_)) hg (by repeat (first | (with_reducible first | exact HK.out | apply Kept.alloc | apply Kept.drewN | apply Kept.drew) | exact HK.out)) (fun k_ e_ => (HO354.out.1 k_ e_).1)); have n3_ := Aside0.mk ((show Kd.C (Kd.int .i64) w38 Ao31 y345.length y345 from by rw [Ny345.out]; exact Kd.C_take (m := (x5_1 : Int).toNat) ((Kd.R_reads' (Kd.R_after (ok := (fun k_ => (P0_ k_ ∨ w.heap.size ≤ k_))) (XR HO_0.out) hg hat)).2.2) KL34.out)); have n4_ := Aside0.mk ((show Kd.C (Kd.int .i64) w38 A37 y355.length y355 from by rw [Ny355.out, KA37.out]; exact Kd.C_drop (m := (x5_1 : Int).toNat) (c := co31) ((Kd.R_reads' (Kd.R_after (ok := (fun k_ => (P0_ k_ ∨ w.heap.size ≤ k_))) (XR HO_0.out) hg hat)).2.2) KL37.out ((Kd.R_reads' (Kd.R_after (ok := (fun k_ => (P0_ k_ ∨ w.heap.size ≤ k_))) (XR HO_0.out) hg hat)).2.1))); have n5_ := Aside0.mk (ho); clear HO_0; clear HB; clear HK; clear HR348; clear HR358; clear HO354; have HO_0 := n0_; have HB := n1_; have HK := n2_; have HR348 := n3_; have HR358 := n4_; have HO361 := n5_; clear n0_ n1_ n2_ n3_ n4_ n5_; clear ho hb hg hat))
                  go_ret
                  exact ⟨_, by first | rfl | (simp [errW_none, errW_some] <;> rfl) | (simp [*, errW_none, errW_some] <;> rfl), by (with_reducible repeat (first | apply Kd.R_alloc | apply Kd.R_drewN | apply Kd.R_drew)); exact Kd.R_mono HO361.out (fun _ hk => hk.1), by repeat (first | (with_reducible first | exact HB.out | apply below_alloc | apply pw_below_drewN | apply below_drew1) | exact HB.out), by repeat (first | (with_reducible first | exact HK.out | apply Kept.alloc | apply Kept.drewN | apply Kept.drew) | exact HK.out)⟩
                · rw [if_neg c30] at H
                  exact absurd H (by simp)
              · rw [if_neg c27] at H
                exact absurd H (by simp)
            · rw [if_neg c26] at H
              exact absurd H (by simp)
          · rw [if_neg c25] at H
            exact absurd H (by simp)
        · rw [if_neg c24] at H
          exact absurd H (by simp)
/-! ### spec_Found: function 36 -/
def spec_Found.l0 : Nat → ByteArray → List Int → List (S42) → Int → Int → Option (List Int)
  | 0, _, _, _, _, _ => none
  | k + 1, x1, x5, x9, x10, x11 => if x11 < x10 then (if 0 ≤ x11 then (if x11 < (x9.length : Int) then ((spec_Fits.f k ((rd_T42 x9 x11).f0) ((rd_T42 x9 x11).f1) ((rd_T42 x9 x11).f2) ((rd_T42 x9 x11).f3) x1).bind fun t367 => (if t367 = true then ((spec_put.f k x5 ((rd_T42 x9 x11).f3)).bind fun t368 => (spec_Found.l0 k x1 t368 x9 x10 (wrap64 (x11 + 1)))) else (spec_Found.l0 k x1 x5 x9 x10 (wrap64 (x11 + 1))))) else (none)) else (none)) else (some x5)
def spec_Found.f (k : Nat) (l0 : List (S42)) (a1 : ByteArray) : Option (List Int) := spec_Found.l0 k a1 (([] : List Int)) l0 (l0.length : Int) 0
theorem spec_Found.mono_l : ∀ k, (∀ y0 y1 y2 y3 y4, LeO (spec_Found.l0 k y0 y1 y2 y3 y4) (spec_Found.l0 (k + 1) y0 y1 y2 y3 y4))
  | 0 => fun _ _ _ _ _ r h => by simp [spec_Found.l0] at h
  | k + 1 => by
    have ih0 := spec_Found.mono_l k
    · intro y0 y1 y2 y3 y4
      unfold spec_Found.l0
      repeat' first
      | (with_reducible exact ih0 _ _ _ _ _)
      | (with_reducible exact spec_Fits.mono _ _ _ _ _ _)
      | (with_reducible exact spec_put.mono _ _ _)
      | (with_reducible exact LeO.refl _)
      | (with_reducible exact LeO.none _)
      | (with_reducible refine LeO.ite ?_ ?_)
      | (with_reducible refine LeO.bind ?_ (fun _ => ?_))
      | exact ih0 _ _ _ _ _
      | exact spec_Fits.mono _ _ _ _ _ _
      | exact spec_put.mono _ _ _
      | exact LeO.none _
      | refine LeO.ite ?_ ?_
      | refine LeO.bind ?_ (fun _ => ?_)
theorem spec_Found.mono : ∀ a0 a1 k, LeO (spec_Found.f k a0 a1) (spec_Found.f (k + 1) a0 a1) := by
  intro a0 a1 k
  have ih0 := spec_Found.mono_l k
  unfold spec_Found.f
  repeat' first
      | (with_reducible exact ih0 _ _ _ _ _)
      | (with_reducible exact spec_Fits.mono _ _ _ _ _ _)
      | (with_reducible exact spec_put.mono _ _ _)
      | (with_reducible exact LeO.refl _)
      | (with_reducible exact LeO.none _)
      | (with_reducible refine LeO.ite ?_ ?_)
      | (with_reducible refine LeO.bind ?_ (fun _ => ?_))
      | exact ih0 _ _ _ _ _
      | exact spec_Fits.mono _ _ _ _ _ _
      | exact spec_put.mono _ _ _
      | exact LeO.none _
      | refine LeO.ite ?_ ?_
      | refine LeO.bind ?_ (fun _ => ?_)
set_option maxHeartbeats 8000000 in
set_option maxRecDepth 100000 in
theorem spec_Found.calls (k : Nat) (A0 : Option Addr) (c0 : Nat) (l0 : List (S42)) (a1 : ByteArray) (r : List Int) (w : World) (hr0 : Kd.C k42 w A0 l0.length l0) (hc0 : l0.length ≤ c0) (h : spec_Found.f k l0 a1 = some r) :
    Calls Tryz.prog 36 #[.slice A0 l0.length c0, .string a1] w fun e w' => ∃ v0_ : Value, e = .returned (v0_) ∧ Kd.R (Kd.int .i64) 3 w' w.heap.size (fun _ => True) v0_ r ∧ Below w.heap.size w w' := by
  have hu42 := Tryz.underlying42
  have HR0 := Aside0.mk hr0
  have HC0 := Aside0.mk hc0
  clear hr0 hc0
  have HB := Aside0.mk (Below.refl w.heap.size w)
  have H : (spec_Found.l0 k a1 (([] : List Int)) l0 (l0.length : Int) 0) = some r := h
  clear h
  obtain ⟨y362, hy362⟩ : ∃ y_ : List Int, y_ = (([] : List Int)) := ⟨_, rfl⟩
  replace H : (spec_Found.l0 k a1 y362 l0 (l0.length : Int) 0) = some r := by first | (rw [hy362]; with_reducible exact H) | (have H2_ := (Option.bind_some _ _).symm.trans H; rw [hy362]; with_reducible exact H2_) | (have H2_ := (Option.bind_some _ _).symm.trans H; with_reducible exact H2_) | with_reducible exact H | (rw [hy362]; exact H) | exact H
  have Ny362 := Aside0.mk hy362
  clear hy362
  have H' := Aside0.mk H
  clear H
  go_enter Tryz.func36, Tryz.ntmps36
  go_wp2_with (first | ((with_reducible refine gate_dst (N := 8) rfl ?_); refine Kd.R_lit (Kd.int .i64) _ 3 ?hg (N := 8) ?hd (xs := ([] : List Int)) (inner := []) (ok := fun _ => True) (okp := fun _ => True) ?hr ?hp (fun _ hk => hk) trivial (Below.refl _ _) (Nat.le_refl _) (by simp) ?_; (case hd => rfl); (case hg => rfl); (case hr => first | (go_simp; done) | (go_simp; rfl)); (case hp => exact (Reps.none _ _)); intro v363 w3 ho4 hb hg_ hnew_; clear hg_ hnew_; (first | rw [← Ny362.out] at ho4 | (simp only [Int.reduceToNat] at ho4; rw [← Ny362.out] at ho4)); have n0_ := Aside0.mk (Kd.R_lower ho4 (below_size (Xb HB.out))); have n1_ := Aside0.mk (below_step (Xb HB.out) hb); clear HB; have HO364 := n0_; have HB := n1_; clear n0_ n1_; clear hb ho4))
  go_loopg [5, 11] k (fun kq v5 v11 w' => ∃ (x5_1 : List Int) (x11_1 : Int), v11 = .int .i64 x11_1 ∧ Aside0 (spec_Found.l0 kq a1 x5_1 l0 (l0.length : Int) x11_1 = some r) ∧ Aside0 (kq ≤ k) ∧ Aside0 (Kd.R (Kd.int .i64) 3 w' w.heap.size (fun _ => True) v5 x5_1) ∧ Aside0 (Below w.heap.size w w'))
  case atStart => exact ⟨(y362), (0), (by first | rfl | (simp; done) | (simp [*]; done)), H', ⟨Nat.le_refl _⟩, ⟨by (with_reducible repeat (first | apply Kd.R_alloc | apply Kd.R_drewN | apply Kd.R_drew)); exact HO364.out⟩, ⟨by repeat (first | (with_reducible first | exact HB.out | apply below_alloc | apply pw_below_drewN | apply below_drew1) | exact HB.out)⟩⟩
  case round =>
    clear H'
    try clear p2
    try clear c3
    obtain ⟨x5_1, x11_1, rfl, HA, HK1, HO_5, HB⟩ := hrel
    cases gk with
    | zero => exact absurd HA.out (by simp [spec_Found.l0])
    | succ k1 =>
      have H := HA.out
      clear HA
      simp only [spec_Found.l0] at H
      by_cases c5 : x11_1 < (l0.length : Int)
      · rw [if_pos c5] at H
        have c5b0 : decide (x11_1 < (l0.length : Int)) = true := decide_eq_true c5
        clear c5
        by_cases c6 : 0 ≤ x11_1
        · rw [if_pos c6] at H
          have c6b0 : decide (0 ≤ x11_1) = true := decide_eq_true c6
          clear c6
          by_cases c7 : x11_1 < (l0.length : Int)
          · rw [if_pos c7] at H
            have c7b0 : decide (x11_1 < (l0.length : Int)) = true := decide_eq_true c7
            clear c7
            replace H := Option.bind_eq_some_iff.mp H
            obtain ⟨t367, A80, H⟩ := H
            replace H : (if t367 = true then ((spec_put.f k1 x5_1 ((rd_T42 l0 x11_1).f3)).bind fun t368 => (spec_Found.l0 k1 a1 t368 l0 (l0.length : Int) (wrap64 (x11_1 + 1)))) else (spec_Found.l0 k1 a1 x5_1 l0 (l0.length : Int) (wrap64 (x11_1 + 1)))) = some r := H
            have A8 := Aside0.mk A80
            clear A80
            by_cases c9 : t367 = true
            · subst c9
              have H1 : ((spec_put.f k1 x5_1 ((rd_T42 l0 x11_1).f3)).bind fun t368 => (spec_Found.l0 k1 a1 t368 l0 (l0.length : Int) (wrap64 (x11_1 + 1)))) = some r := by rw [if_pos rfl] at H; exact H
              clear H
              have H := H1
              clear H1
              replace H := Option.bind_eq_some_iff.mp H
              obtain ⟨t368, A100, H⟩ := H
              replace H : (spec_Found.l0 k1 a1 t368 l0 (l0.length : Int) (wrap64 (x11_1 + 1))) = some r := H
              have A10 := Aside0.mk A100
              clear A100
              have H' := Aside0.mk H
              clear H
              have p365 : 0 ≤ (x11_1 : Int) := of_decide_eq_true (by first | (with_reducible assumption) | assumption)
              have q365 : x11_1 < (l0.length : Int) := of_decide_eq_true (by first | (with_reducible assumption) | assumption)
              obtain ⟨ad365, A365_2, c365_2, e365, hx365_0, hx365_1, hx365_2, hx365_3, hl365_2, hi365_2⟩ := at_T42 HR0.out x11_1 p365 q365
              cases e365
              replace hx365_0 := (HB.out.cell (World.block_lt_of_cell? w _ hx365_0)).trans hx365_0
              replace hx365_1 := (HB.out.cell (World.block_lt_of_cell? w _ hx365_1)).trans hx365_1
              replace hx365_2 := (HB.out.cell (World.block_lt_of_cell? w _ hx365_2)).trans hx365_2
              replace hx365_3 := (HB.out.cell (World.block_lt_of_cell? w _ hx365_3)).trans hx365_3
              have HR365_2 := Aside0.mk hi365_2
              have HC365_2 := Aside0.mk hl365_2
              clear hi365_2 hl365_2
              replace p365 := eq_true p365
              replace q365 := eq_true q365
              go_wp2_with (first | ((with_reducible refine gate_dst (N := 7) rfl ?_); refine box_event ?hg (N := 7) ?hd (cs := #[.bool false, .string (⟨#[]⟩ : ByteArray), .slice none 0 0, .int .i64 0]) (t := 42) ?hr ?_; (case hd => rfl); (case hg => rfl); (case hr => first | (go_simp; done) | (go_simp; rfl)); intro gb366 hg w11 hbox hb; have n0_ := Aside0.mk (Kd.R_below (XR HO_5.out) hb); have n1_ := Aside0.mk (below_step (Xb HB.out) hb); have n2_ := Aside0.mk (hbox); have n3_ := Aside0.mk ((by rw [hg]; exact (below_size (Xb HB.out)) : w.heap.size ≤ gb366)); have n4_ := Aside0.mk ((by rw [hg]; exact (below_size (Xb HB.out)) : w.heap.size ≤ gb366)); clear HO_5; clear HB; have HO_5 := n0_; have HB := n1_; have BK366 := n2_; have GW366 := n3_; have GE366 := n4_; clear n0_ n1_ n2_ n3_ n4_; clear hb hbox hg; have hcz12_0 : w11.cell? ⟨gb366, 0, none⟩ = some (.bool false) := (blk_cell BK366.out 0).trans rfl; have hcz12_1 : w11.cell? ⟨gb366, 1, none⟩ = some (.string (⟨#[]⟩ : ByteArray)) := (blk_cell BK366.out 1).trans rfl; have hcz12_2 : w11.cell? ⟨gb366, 2, none⟩ = some (.slice none 0 0) := (blk_cell BK366.out 2).trans rfl; have hcz12_3 : w11.cell? ⟨gb366, 3, none⟩ = some (.int .i64 0) := (blk_cell BK366.out 3).trans rfl; have hfz12_0 := blk_frozen BK366.out 0; have hfz12_1 := blk_frozen BK366.out 1; have hfz12_2 := blk_frozen BK366.out 2; have hfz12_3 := blk_frozen BK366.out 3) | ((with_reducible refine gate_callee (f := 50) rfl ?_); refine goesL_ (some 17) rfl rfl Tryz.func50 (by kernel_rfl) rfl #[.agg #[.bool ((rd_T42 l0 x11_1).f0), .string ((rd_T42 l0 x11_1).f1), .slice A365_2 ((rd_T42 l0 x11_1).f2).length c365_2, .int .i64 ((rd_T42 l0 x11_1).f3)], .string a1] rfl (by (try simp only [List.map_toArray, List.map_cons, List.map_nil]); first | done | rfl | (simp only [List.length_drop, List.length_take]; rfl)) ?_; (with_reducible refine (spec_Fits.calls k1 ((rd_T42 l0 x11_1).f0) ((rd_T42 l0 x11_1).f1) _ _ ((rd_T42 l0 x11_1).f2) ((rd_T42 l0 x11_1).f3) a1 true _ ?side1 ?side2 A8.out).mono ?_); (case side1 => exact Kd.C_below HR365_2.out (by repeat (first | (with_reducible first | exact HB.out | apply below_alloc | apply pw_below_drewN | apply below_drew1 | refine below_set ?_ GE366.out) | exact HB.out))); (case side2 => exact HC365_2.out); rintro e w13 ⟨rfl, hb⟩; refine ⟨_, rfl, ?_⟩; have n0_ := Aside0.mk (Kd.R_below (by (with_reducible repeat (first | apply Kd.R_alloc | apply Kd.R_drewN | apply Kd.R_drew)); exact (Kd.R_mono (Kd.R_far (p := ⟨gb366, 3, none⟩) (Kd.R_far (p := ⟨gb366, 2, none⟩) (Kd.R_far (p := ⟨gb366, 1, none⟩) (Kd.R_far (p := ⟨gb366, 0, none⟩) (Kd.R_types HO_5.out BK366.out (by decide)) (fun _ hk => hk.2) (.bool ((rd_T42 l0 x11_1).f0))) (fun _ hk => hk.2) (.string ((rd_T42 l0 x11_1).f1))) (fun _ hk => hk.2) (.slice A365_2 ((rd_T42 l0 x11_1).f2).length c365_2)) (fun _ hk => hk.2) (.int .i64 ((rd_T42 l0 x11_1).f3))) (fun _ h_ => h_.1))) hb); have n1_ := Aside0.mk (blk_below (g := gb366) (o := .cells #[.bool ((rd_T42 l0 x11_1).f0), .string ((rd_T42 l0 x11_1).f1), .slice A365_2 ((rd_T42 l0 x11_1).f2).length c365_2, .int .i64 ((rd_T42 l0 x11_1).f3)] 42 (0, 0)) (by (with_reducible repeat (first | refine blk_drewN ?_ _ | refine blk_drew ?_ | refine blk_alloc ?_ _)); refine blk_put (cs := #[.bool ((rd_T42 l0 x11_1).f0), .string ((rd_T42 l0 x11_1).f1), .slice A365_2 ((rd_T42 l0 x11_1).f2).length c365_2, .int .i64 0]) ?_ 3 _ rfl; (with_reducible repeat (first | refine blk_drewN ?_ _ | refine blk_drew ?_ | refine blk_alloc ?_ _)); refine blk_put (cs := #[.bool ((rd_T42 l0 x11_1).f0), .string ((rd_T42 l0 x11_1).f1), .slice none 0 0, .int .i64 0]) ?_ 2 _ rfl; (with_reducible repeat (first | refine blk_drewN ?_ _ | refine blk_drew ?_ | refine blk_alloc ?_ _)); refine blk_put (cs := #[.bool ((rd_T42 l0 x11_1).f0), .string (⟨#[]⟩ : ByteArray), .slice none 0 0, .int .i64 0]) ?_ 1 _ rfl; (with_reducible repeat (first | refine blk_drewN ?_ _ | refine blk_drew ?_ | refine blk_alloc ?_ _)); refine blk_put (cs := #[.bool false, .string (⟨#[]⟩ : ByteArray), .slice none 0 0, .int .i64 0]) ?_ 0 _ rfl; (with_reducible repeat (first | refine blk_drewN ?_ _ | refine blk_drew ?_ | refine blk_alloc ?_ _)); exact BK366.out) hb); have n2_ := Aside0.mk (below_step (by repeat (first | (with_reducible first | exact HB.out | apply below_alloc | apply pw_below_drewN | apply below_drew1 | refine below_set ?_ GE366.out) | exact HB.out)) hb); clear HO_5; clear BK366; clear HB; have HO_5 := n0_; have BK366 := n1_; have HB := n2_; clear n0_ n1_ n2_; (try clear hb); (try clear hb2); (try clear hk); (try clear hi); have hcz14_0 : w13.cell? ⟨gb366, 0, none⟩ = some (.bool ((rd_T42 l0 x11_1).f0)) := (blk_cell BK366.out 0).trans rfl; have hcz14_1 : w13.cell? ⟨gb366, 1, none⟩ = some (.string ((rd_T42 l0 x11_1).f1)) := (blk_cell BK366.out 1).trans rfl; have hcz14_2 : w13.cell? ⟨gb366, 2, none⟩ = some (.slice A365_2 ((rd_T42 l0 x11_1).f2).length c365_2) := (blk_cell BK366.out 2).trans rfl; have hcz14_3 : w13.cell? ⟨gb366, 3, none⟩ = some (.int .i64 ((rd_T42 l0 x11_1).f3)) := (blk_cell BK366.out 3).trans rfl; have hfz14_0 := blk_frozen BK366.out 0; have hfz14_1 := blk_frozen BK366.out 1; have hfz14_2 := blk_frozen BK366.out 2; have hfz14_3 := blk_frozen BK366.out 3; obtain ⟨Ao15, co15, eo15⟩ := Kd.R_slice HO_5.out; subst eo15) | ((with_reducible refine gate_callee (f := 51) rfl ?_); refine goesL_ (some 21) rfl rfl Tryz.func51 (by kernel_rfl) rfl #[.slice Ao15 x5_1.length co15, .int .i64 ((rd_T42 l0 x11_1).f3)] rfl (by (try simp only [List.map_toArray, List.map_cons, List.map_nil]); first | done | rfl | (simp only [List.length_drop, List.length_take]; rfl)) ?_; (with_reducible refine (spec_put.calls k1 (fun k_ => some k_ = (.slice Ao15 x5_1.length co15 : Value).ownBlock) (.slice Ao15 x5_1.length co15) x5_1 ((rd_T42 l0 x11_1).f3) t368 w _ ?side1 ?side2 A10.out).mono ?_); (case side1 => repeat (first | (with_reducible first | exact HB.out | apply below_alloc | apply pw_below_drewN | apply below_drew1 | refine below_set ?_ GE366.out) | exact HB.out)); (case side2 => exact Kd.R_tight rfl HO_5.out); rintro e w16 ⟨v369, rfl, ho0, hb, hkp⟩; refine ⟨_, rfl, ?_⟩; have n0_ := Aside0.mk (blk_kept (by (with_reducible repeat (first | refine blk_drewN ?_ _ | refine blk_drew ?_ | refine blk_alloc ?_ _)); exact BK366.out) hkp (fun hs_ => (fun e_ => (Kd.R_ne HO_5.out BK366.out (by decide)) e_) hs_)); have n1_ := Aside0.mk (Kd.R_mono (ok' := fun k_ => True) ho0 (fun k_ hk_ => trivial)); have n2_ := Aside0.mk (hb); clear BK366; clear HB; clear HO_5; have BK366 := n0_; have HO370 := n1_; have HB := n2_; clear n0_ n1_ n2_; (try clear hb); (try clear hkp); (try clear ho0)))
              go_roundg k1
              case measure => have := HK1.out; omega
              case rel => exact ⟨(t368), (wrap64 (x11_1 + 1)), (by first | rfl | (simp; done) | (simp [*]; done)), H', ⟨by have := HK1.out; omega⟩, ⟨by (with_reducible repeat (first | apply Kd.R_alloc | apply Kd.R_drewN | apply Kd.R_drew)); exact HO370.out⟩, ⟨by repeat (first | (with_reducible first | exact HB.out | apply below_alloc | apply pw_below_drewN | apply below_drew1 | refine below_set ?_ GE366.out) | exact HB.out)⟩⟩
            · replace c9 := Bool.eq_false_iff.mpr c9
              subst c9
              have H1 : (spec_Found.l0 k1 a1 x5_1 l0 (l0.length : Int) (wrap64 (x11_1 + 1))) = some r := by rw [if_neg (show ¬ (false = true) by decide)] at H; exact H
              clear H
              have H := H1
              clear H1
              have H' := Aside0.mk H
              clear H
              have p365 : 0 ≤ (x11_1 : Int) := of_decide_eq_true (by first | (with_reducible assumption) | assumption)
              have q365 : x11_1 < (l0.length : Int) := of_decide_eq_true (by first | (with_reducible assumption) | assumption)
              obtain ⟨ad365, A365_2, c365_2, e365, hx365_0, hx365_1, hx365_2, hx365_3, hl365_2, hi365_2⟩ := at_T42 HR0.out x11_1 p365 q365
              cases e365
              replace hx365_0 := (HB.out.cell (World.block_lt_of_cell? w _ hx365_0)).trans hx365_0
              replace hx365_1 := (HB.out.cell (World.block_lt_of_cell? w _ hx365_1)).trans hx365_1
              replace hx365_2 := (HB.out.cell (World.block_lt_of_cell? w _ hx365_2)).trans hx365_2
              replace hx365_3 := (HB.out.cell (World.block_lt_of_cell? w _ hx365_3)).trans hx365_3
              have HR365_2 := Aside0.mk hi365_2
              have HC365_2 := Aside0.mk hl365_2
              clear hi365_2 hl365_2
              replace p365 := eq_true p365
              replace q365 := eq_true q365
              go_wp2_with (first | ((with_reducible refine gate_dst (N := 7) rfl ?_); refine box_event ?hg (N := 7) ?hd (cs := #[.bool false, .string (⟨#[]⟩ : ByteArray), .slice none 0 0, .int .i64 0]) (t := 42) ?hr ?_; (case hd => rfl); (case hg => rfl); (case hr => first | (go_simp; done) | (go_simp; rfl)); intro gb366 hg w17 hbox hb; have n0_ := Aside0.mk (Kd.R_below (XR HO_5.out) hb); have n1_ := Aside0.mk (below_step (Xb HB.out) hb); have n2_ := Aside0.mk (hbox); have n3_ := Aside0.mk ((by rw [hg]; exact (below_size (Xb HB.out)) : w.heap.size ≤ gb366)); have n4_ := Aside0.mk ((by rw [hg]; exact (below_size (Xb HB.out)) : w.heap.size ≤ gb366)); clear HO_5; clear HB; have HO_5 := n0_; have HB := n1_; have BK366 := n2_; have GW366 := n3_; have GE366 := n4_; clear n0_ n1_ n2_ n3_ n4_; clear hb hbox hg; have hcz18_0 : w17.cell? ⟨gb366, 0, none⟩ = some (.bool false) := (blk_cell BK366.out 0).trans rfl; have hcz18_1 : w17.cell? ⟨gb366, 1, none⟩ = some (.string (⟨#[]⟩ : ByteArray)) := (blk_cell BK366.out 1).trans rfl; have hcz18_2 : w17.cell? ⟨gb366, 2, none⟩ = some (.slice none 0 0) := (blk_cell BK366.out 2).trans rfl; have hcz18_3 : w17.cell? ⟨gb366, 3, none⟩ = some (.int .i64 0) := (blk_cell BK366.out 3).trans rfl; have hfz18_0 := blk_frozen BK366.out 0; have hfz18_1 := blk_frozen BK366.out 1; have hfz18_2 := blk_frozen BK366.out 2; have hfz18_3 := blk_frozen BK366.out 3) | ((with_reducible refine gate_callee (f := 50) rfl ?_); refine goesL_ (some 17) rfl rfl Tryz.func50 (by kernel_rfl) rfl #[.agg #[.bool ((rd_T42 l0 x11_1).f0), .string ((rd_T42 l0 x11_1).f1), .slice A365_2 ((rd_T42 l0 x11_1).f2).length c365_2, .int .i64 ((rd_T42 l0 x11_1).f3)], .string a1] rfl (by (try simp only [List.map_toArray, List.map_cons, List.map_nil]); first | done | rfl | (simp only [List.length_drop, List.length_take]; rfl)) ?_; (with_reducible refine (spec_Fits.calls k1 ((rd_T42 l0 x11_1).f0) ((rd_T42 l0 x11_1).f1) _ _ ((rd_T42 l0 x11_1).f2) ((rd_T42 l0 x11_1).f3) a1 false _ ?side1 ?side2 A8.out).mono ?_); (case side1 => exact Kd.C_below HR365_2.out (by repeat (first | (with_reducible first | exact HB.out | apply below_alloc | apply pw_below_drewN | apply below_drew1 | refine below_set ?_ GE366.out) | exact HB.out))); (case side2 => exact HC365_2.out); rintro e w19 ⟨rfl, hb⟩; refine ⟨_, rfl, ?_⟩; have n0_ := Aside0.mk (Kd.R_below (by (with_reducible repeat (first | apply Kd.R_alloc | apply Kd.R_drewN | apply Kd.R_drew)); exact (Kd.R_mono (Kd.R_far (p := ⟨gb366, 3, none⟩) (Kd.R_far (p := ⟨gb366, 2, none⟩) (Kd.R_far (p := ⟨gb366, 1, none⟩) (Kd.R_far (p := ⟨gb366, 0, none⟩) (Kd.R_types HO_5.out BK366.out (by decide)) (fun _ hk => hk.2) (.bool ((rd_T42 l0 x11_1).f0))) (fun _ hk => hk.2) (.string ((rd_T42 l0 x11_1).f1))) (fun _ hk => hk.2) (.slice A365_2 ((rd_T42 l0 x11_1).f2).length c365_2)) (fun _ hk => hk.2) (.int .i64 ((rd_T42 l0 x11_1).f3))) (fun _ h_ => h_.1))) hb); have n1_ := Aside0.mk (blk_below (g := gb366) (o := .cells #[.bool ((rd_T42 l0 x11_1).f0), .string ((rd_T42 l0 x11_1).f1), .slice A365_2 ((rd_T42 l0 x11_1).f2).length c365_2, .int .i64 ((rd_T42 l0 x11_1).f3)] 42 (0, 0)) (by (with_reducible repeat (first | refine blk_drewN ?_ _ | refine blk_drew ?_ | refine blk_alloc ?_ _)); refine blk_put (cs := #[.bool ((rd_T42 l0 x11_1).f0), .string ((rd_T42 l0 x11_1).f1), .slice A365_2 ((rd_T42 l0 x11_1).f2).length c365_2, .int .i64 0]) ?_ 3 _ rfl; (with_reducible repeat (first | refine blk_drewN ?_ _ | refine blk_drew ?_ | refine blk_alloc ?_ _)); refine blk_put (cs := #[.bool ((rd_T42 l0 x11_1).f0), .string ((rd_T42 l0 x11_1).f1), .slice none 0 0, .int .i64 0]) ?_ 2 _ rfl; (with_reducible repeat (first | refine blk_drewN ?_ _ | refine blk_drew ?_ | refine blk_alloc ?_ _)); refine blk_put (cs := #[.bool ((rd_T42 l0 x11_1).f0), .string (⟨#[]⟩ : ByteArray), .slice none 0 0, .int .i64 0]) ?_ 1 _ rfl; (with_reducible repeat (first | refine blk_drewN ?_ _ | refine blk_drew ?_ | refine blk_alloc ?_ _)); refine blk_put (cs := #[.bool false, .string (⟨#[]⟩ : ByteArray), .slice none 0 0, .int .i64 0]) ?_ 0 _ rfl; (with_reducible repeat (first | refine blk_drewN ?_ _ | refine blk_drew ?_ | refine blk_alloc ?_ _)); exact BK366.out) hb); have n2_ := Aside0.mk (below_step (by repeat (first | (with_reducible first | exact HB.out | apply below_alloc | apply pw_below_drewN | apply below_drew1 | refine below_set ?_ GE366.out) | exact HB.out)) hb); clear HO_5; clear BK366; clear HB; have HO_5 := n0_; have BK366 := n1_; have HB := n2_; clear n0_ n1_ n2_; (try clear hb); (try clear hb2); (try clear hk); (try clear hi)))
              go_roundg k1
              case measure => have := HK1.out; omega
              case rel => exact ⟨(x5_1), (wrap64 (x11_1 + 1)), (by first | rfl | (simp; done) | (simp [*]; done)), H', ⟨by have := HK1.out; omega⟩, ⟨by (with_reducible repeat (first | apply Kd.R_alloc | apply Kd.R_drewN | apply Kd.R_drew)); exact HO_5.out⟩, ⟨by repeat (first | (with_reducible first | exact HB.out | apply below_alloc | apply pw_below_drewN | apply below_drew1 | refine below_set ?_ GE366.out) | exact HB.out)⟩⟩
          · rw [if_neg c7] at H
            exact absurd H (by simp)
        · rw [if_neg c6] at H
          exact absurd H (by simp)
      · rw [if_neg c5] at H
        have c5b0 : decide (x11_1 < (l0.length : Int)) = false := decide_eq_false c5
        clear c5
        obtain rfl := Option.some.inj H
        go_wp2
        go_ret
        exact ⟨_, by first | rfl | (simp [errW_none, errW_some] <;> rfl) | (simp [*, errW_none, errW_some] <;> rfl), by (with_reducible repeat (first | apply Kd.R_alloc | apply Kd.R_drewN | apply Kd.R_drew)); exact HO_5.out, by repeat (first | (with_reducible first | exact HB.out | apply below_alloc | apply pw_below_drewN | apply below_drew1) | exact HB.out)⟩
end Go.Proofs.YtnoolgbbpekomaaGreatDoor.T
