/- As the print has them, turned for the tree: spec_SpansOk, laws_sameInts, spec_Decimal, spec_HolesText, laws_hole, spec_Hole. -/
import Derived.Test.YtnoolgbbpekomaaGreatDoorVz
namespace Go.Proofs.YtnoolgbbpekomaaGreatDoor.T
open Go.RowKit YtnoolgbbpekomaaGreatDoorW.PrintWords YtnoolgbbpekomaaGreatDoorW.PrintLast YtnoolgbbpekomaaGreatDoorW.PrintMore
attribute [local go_sem] max2_int min2_int max_two min_two max_three min_three max_four min_four   -- for this text's walks alone
set_option linter.unusedVariables false
set_option linter.unusedSimpArgs false
/-! ### spec_SpansOk: function 15 -/
def spec_SpansOk.l0 : Nat → List (S67) → Int → Int → Option (Bool)
  | 0, _, _, _ => none
  | k + 1, x5, x6, x7 => if x7 < x6 then (if 0 ≤ x7 then (if x7 < (x5.length : Int) then (if ((rd_T67 x5 x7).f0) < 0 then (some false) else (if ((rd_T67 x5 x7).f1) < ((rd_T67 x5 x7).f0) then (some false) else (if ((rd_T67 x5 x7).f1) > 2000 then (some false) else (spec_SpansOk.l0 k x5 x6 (wrap64 (x7 + 1)))))) else (none)) else (none)) else (some true)
def spec_SpansOk.f (k : Nat) (l0 : List (S67)) : Option (Bool) := spec_SpansOk.l0 k l0 (l0.length : Int) 0
theorem spec_SpansOk.mono_l : ∀ k, (∀ y0 y1 y2, LeO (spec_SpansOk.l0 k y0 y1 y2) (spec_SpansOk.l0 (k + 1) y0 y1 y2))
  | 0 => fun _ _ _ r h => by simp [spec_SpansOk.l0] at h
  | k + 1 => by
    have ih0 := spec_SpansOk.mono_l k
    · intro y0 y1 y2
      unfold spec_SpansOk.l0
      repeat' first
      | (with_reducible exact ih0 _ _ _)
      | (with_reducible exact LeO.refl _)
      | (with_reducible exact LeO.none _)
      | (with_reducible refine LeO.ite ?_ ?_)
      | (with_reducible refine LeO.bind ?_ (fun _ => ?_))
      | exact ih0 _ _ _
      | exact LeO.none _
      | refine LeO.ite ?_ ?_
      | refine LeO.bind ?_ (fun _ => ?_)
theorem spec_SpansOk.mono : ∀ a0 k, LeO (spec_SpansOk.f k a0) (spec_SpansOk.f (k + 1) a0) := by
  intro a0 k
  have ih0 := spec_SpansOk.mono_l k
  unfold spec_SpansOk.f
  repeat' first
      | (with_reducible exact ih0 _ _ _)
      | (with_reducible exact LeO.refl _)
      | (with_reducible exact LeO.none _)
      | (with_reducible refine LeO.ite ?_ ?_)
      | (with_reducible refine LeO.bind ?_ (fun _ => ?_))
      | exact ih0 _ _ _
      | exact LeO.none _
      | refine LeO.ite ?_ ?_
      | refine LeO.bind ?_ (fun _ => ?_)
set_option maxHeartbeats 8000000 in
set_option maxRecDepth 100000 in
theorem spec_SpansOk.calls (k : Nat) (A0 : Option Addr) (c0 : Nat) (l0 : List (S67)) (r : Bool) (w : World) (hr0 : Kd.C k67 w A0 l0.length l0) (hc0 : l0.length ≤ c0) (h : spec_SpansOk.f k l0 = some r) :
    Calls Tryz.prog 15 #[.slice A0 l0.length c0] w fun e w' => e = .returned (.bool r) ∧ Below w.heap.size w w' := by
  have hu67 := Tryz.underlying67
  have HR0 := Aside0.mk hr0
  have HC0 := Aside0.mk hc0
  clear hr0 hc0
  have HB := Aside0.mk (Below.refl w.heap.size w)
  have H : (spec_SpansOk.l0 k l0 (l0.length : Int) 0) = some r := h
  clear h
  have H' := Aside0.mk H
  clear H
  go_enter Tryz.func15, Tryz.ntmps15
  go_wp2
  go_loopg [7] k (fun kq v7 w' => ∃ (x7_1 : Int), v7 = .int .i64 x7_1 ∧ Aside0 (spec_SpansOk.l0 kq l0 (l0.length : Int) x7_1 = some r) ∧ Aside0 (kq ≤ k) ∧ Aside0 (Below w.heap.size w w'))
  case atStart => exact ⟨(0), (by first | rfl | (simp; done) | (simp [*]; done)), H', ⟨Nat.le_refl _⟩, ⟨by repeat (first | (with_reducible first | exact HB.out | apply below_alloc | apply pw_below_drewN | apply below_drew1) | exact HB.out)⟩⟩
  case round =>
    clear H'
    try clear c1
    obtain ⟨x7_1, rfl, HA, HK1, HB⟩ := hrel
    cases gk with
    | zero => exact absurd HA.out (by simp [spec_SpansOk.l0])
    | succ k1 =>
      have H := HA.out
      clear HA
      simp only [spec_SpansOk.l0] at H
      by_cases c2 : x7_1 < (l0.length : Int)
      · rw [if_pos c2] at H
        have c2b0 : decide (x7_1 < (l0.length : Int)) = true := decide_eq_true c2
        clear c2
        by_cases c3 : 0 ≤ x7_1
        · rw [if_pos c3] at H
          have c3b0 : decide (0 ≤ x7_1) = true := decide_eq_true c3
          clear c3
          by_cases c4 : x7_1 < (l0.length : Int)
          · rw [if_pos c4] at H
            have c4b0 : decide (x7_1 < (l0.length : Int)) = true := decide_eq_true c4
            clear c4
            by_cases c5 : ((rd_T67 l0 x7_1).f0) < 0
            · rw [if_pos c5] at H
              have c5b0 : decide (((rd_T67 l0 x7_1).f0) < 0) = true := decide_eq_true c5
              clear c5
              obtain rfl := Option.some.inj H
              have p101 : 0 ≤ (x7_1 : Int) := of_decide_eq_true (by first | (with_reducible assumption) | assumption)
              have q101 : x7_1 < (l0.length : Int) := of_decide_eq_true (by first | (with_reducible assumption) | assumption)
              obtain ⟨ad101, e101, hx101_0, hx101_1⟩ := at_T67 HR0.out x7_1 p101 q101
              cases e101
              replace hx101_0 := (HB.out.cell (World.block_lt_of_cell? w _ hx101_0)).trans hx101_0
              replace hx101_1 := (HB.out.cell (World.block_lt_of_cell? w _ hx101_1)).trans hx101_1
              replace p101 := eq_true p101
              replace q101 := eq_true q101
              go_wp2_with (first | ((with_reducible refine gate_dst (N := 4) rfl ?_); refine box_event ?hg (N := 4) ?hd (cs := #[.int .i64 0, .int .i64 0]) (t := 67) ?hr ?_; (case hd => rfl); (case hg => rfl); (case hr => first | (go_simp; done) | (go_simp; rfl)); intro gb102 hg w6 hbox hb; have n0_ := Aside0.mk (below_step (Xb HB.out) hb); have n1_ := Aside0.mk (hbox); have n2_ := Aside0.mk ((by rw [hg]; exact (below_size (Xb HB.out)) : w.heap.size ≤ gb102)); have n3_ := Aside0.mk ((by rw [hg]; exact (below_size (Xb HB.out)) : w.heap.size ≤ gb102)); clear HB; have HB := n0_; have BK102 := n1_; have GW102 := n2_; have GE102 := n3_; clear n0_ n1_ n2_ n3_; clear hb hbox hg; have hcz7_0 : w6.cell? ⟨gb102, 0, none⟩ = some (.int .i64 0) := (blk_cell BK102.out 0).trans rfl; have hcz7_1 : w6.cell? ⟨gb102, 1, none⟩ = some (.int .i64 0) := (blk_cell BK102.out 1).trans rfl; have hfz7_0 := blk_frozen BK102.out 0; have hfz7_1 := blk_frozen BK102.out 1))
              go_ret
              exact ⟨by first | rfl | (simp [errW_none, errW_some] <;> rfl) | (simp [*, errW_none, errW_some] <;> rfl), by repeat (first | (with_reducible first | exact HB.out | apply below_alloc | apply pw_below_drewN | apply below_drew1 | refine below_set ?_ GE102.out) | exact HB.out)⟩
            · rw [if_neg c5] at H
              have c5b0 : decide (((rd_T67 l0 x7_1).f0) < 0) = false := decide_eq_false c5
              clear c5
              by_cases c8 : ((rd_T67 l0 x7_1).f1) < ((rd_T67 l0 x7_1).f0)
              · rw [if_pos c8] at H
                have c8b0 : decide (((rd_T67 l0 x7_1).f1) < ((rd_T67 l0 x7_1).f0)) = true := decide_eq_true c8
                clear c8
                obtain rfl := Option.some.inj H
                have p101 : 0 ≤ (x7_1 : Int) := of_decide_eq_true (by first | (with_reducible assumption) | assumption)
                have q101 : x7_1 < (l0.length : Int) := of_decide_eq_true (by first | (with_reducible assumption) | assumption)
                obtain ⟨ad101, e101, hx101_0, hx101_1⟩ := at_T67 HR0.out x7_1 p101 q101
                cases e101
                replace hx101_0 := (HB.out.cell (World.block_lt_of_cell? w _ hx101_0)).trans hx101_0
                replace hx101_1 := (HB.out.cell (World.block_lt_of_cell? w _ hx101_1)).trans hx101_1
                replace p101 := eq_true p101
                replace q101 := eq_true q101
                go_wp2_with (first | ((with_reducible refine gate_dst (N := 4) rfl ?_); refine box_event ?hg (N := 4) ?hd (cs := #[.int .i64 0, .int .i64 0]) (t := 67) ?hr ?_; (case hd => rfl); (case hg => rfl); (case hr => first | (go_simp; done) | (go_simp; rfl)); intro gb102 hg w9 hbox hb; have n0_ := Aside0.mk (below_step (Xb HB.out) hb); have n1_ := Aside0.mk (hbox); have n2_ := Aside0.mk ((by rw [hg]; exact (below_size (Xb HB.out)) : w.heap.size ≤ gb102)); have n3_ := Aside0.mk ((by rw [hg]; exact (below_size (Xb HB.out)) : w.heap.size ≤ gb102)); clear HB; have HB := n0_; have BK102 := n1_; have GW102 := n2_; have GE102 := n3_; clear n0_ n1_ n2_ n3_; clear hb hbox hg; have hcz10_0 : w9.cell? ⟨gb102, 0, none⟩ = some (.int .i64 0) := (blk_cell BK102.out 0).trans rfl; have hcz10_1 : w9.cell? ⟨gb102, 1, none⟩ = some (.int .i64 0) := (blk_cell BK102.out 1).trans rfl; have hfz10_0 := blk_frozen BK102.out 0; have hfz10_1 := blk_frozen BK102.out 1))
                go_ret
                exact ⟨by first | rfl | (simp [errW_none, errW_some] <;> rfl) | (simp [*, errW_none, errW_some] <;> rfl), by repeat (first | (with_reducible first | exact HB.out | apply below_alloc | apply pw_below_drewN | apply below_drew1 | refine below_set ?_ GE102.out) | exact HB.out)⟩
              · rw [if_neg c8] at H
                have c8b0 : decide (((rd_T67 l0 x7_1).f1) < ((rd_T67 l0 x7_1).f0)) = false := decide_eq_false c8
                clear c8
                by_cases c11 : ((rd_T67 l0 x7_1).f1) > 2000
                · rw [if_pos c11] at H
                  have c11b0 : decide (2000 < ((rd_T67 l0 x7_1).f1)) = true := decide_eq_true c11
                  clear c11
                  obtain rfl := Option.some.inj H
                  have p101 : 0 ≤ (x7_1 : Int) := of_decide_eq_true (by first | (with_reducible assumption) | assumption)
                  have q101 : x7_1 < (l0.length : Int) := of_decide_eq_true (by first | (with_reducible assumption) | assumption)
                  obtain ⟨ad101, e101, hx101_0, hx101_1⟩ := at_T67 HR0.out x7_1 p101 q101
                  cases e101
                  replace hx101_0 := (HB.out.cell (World.block_lt_of_cell? w _ hx101_0)).trans hx101_0
                  replace hx101_1 := (HB.out.cell (World.block_lt_of_cell? w _ hx101_1)).trans hx101_1
                  replace p101 := eq_true p101
                  replace q101 := eq_true q101
                  go_wp2_with (first | ((with_reducible refine gate_dst (N := 4) rfl ?_); refine box_event ?hg (N := 4) ?hd (cs := #[.int .i64 0, .int .i64 0]) (t := 67) ?hr ?_; (case hd => rfl); (case hg => rfl); (case hr => first | (go_simp; done) | (go_simp; rfl)); intro gb102 hg w12 hbox hb; have n0_ := Aside0.mk (below_step (Xb HB.out) hb); have n1_ := Aside0.mk (hbox); have n2_ := Aside0.mk ((by rw [hg]; exact (below_size (Xb HB.out)) : w.heap.size ≤ gb102)); have n3_ := Aside0.mk ((by rw [hg]; exact (below_size (Xb HB.out)) : w.heap.size ≤ gb102)); clear HB; have HB := n0_; have BK102 := n1_; have GW102 := n2_; have GE102 := n3_; clear n0_ n1_ n2_ n3_; clear hb hbox hg; have hcz13_0 : w12.cell? ⟨gb102, 0, none⟩ = some (.int .i64 0) := (blk_cell BK102.out 0).trans rfl; have hcz13_1 : w12.cell? ⟨gb102, 1, none⟩ = some (.int .i64 0) := (blk_cell BK102.out 1).trans rfl; have hfz13_0 := blk_frozen BK102.out 0; have hfz13_1 := blk_frozen BK102.out 1))
                  go_ret
                  exact ⟨by first | rfl | (simp [errW_none, errW_some] <;> rfl) | (simp [*, errW_none, errW_some] <;> rfl), by repeat (first | (with_reducible first | exact HB.out | apply below_alloc | apply pw_below_drewN | apply below_drew1 | refine below_set ?_ GE102.out) | exact HB.out)⟩
                · rw [if_neg c11] at H
                  have c11b0 : decide (2000 < ((rd_T67 l0 x7_1).f1)) = false := decide_eq_false c11
                  clear c11
                  have H' := Aside0.mk H
                  clear H
                  have p101 : 0 ≤ (x7_1 : Int) := of_decide_eq_true (by first | (with_reducible assumption) | assumption)
                  have q101 : x7_1 < (l0.length : Int) := of_decide_eq_true (by first | (with_reducible assumption) | assumption)
                  obtain ⟨ad101, e101, hx101_0, hx101_1⟩ := at_T67 HR0.out x7_1 p101 q101
                  cases e101
                  replace hx101_0 := (HB.out.cell (World.block_lt_of_cell? w _ hx101_0)).trans hx101_0
                  replace hx101_1 := (HB.out.cell (World.block_lt_of_cell? w _ hx101_1)).trans hx101_1
                  replace p101 := eq_true p101
                  replace q101 := eq_true q101
                  go_wp2_with (first | ((with_reducible refine gate_dst (N := 4) rfl ?_); refine box_event ?hg (N := 4) ?hd (cs := #[.int .i64 0, .int .i64 0]) (t := 67) ?hr ?_; (case hd => rfl); (case hg => rfl); (case hr => first | (go_simp; done) | (go_simp; rfl)); intro gb102 hg w14 hbox hb; have n0_ := Aside0.mk (below_step (Xb HB.out) hb); have n1_ := Aside0.mk (hbox); have n2_ := Aside0.mk ((by rw [hg]; exact (below_size (Xb HB.out)) : w.heap.size ≤ gb102)); have n3_ := Aside0.mk ((by rw [hg]; exact (below_size (Xb HB.out)) : w.heap.size ≤ gb102)); clear HB; have HB := n0_; have BK102 := n1_; have GW102 := n2_; have GE102 := n3_; clear n0_ n1_ n2_ n3_; clear hb hbox hg; have hcz15_0 : w14.cell? ⟨gb102, 0, none⟩ = some (.int .i64 0) := (blk_cell BK102.out 0).trans rfl; have hcz15_1 : w14.cell? ⟨gb102, 1, none⟩ = some (.int .i64 0) := (blk_cell BK102.out 1).trans rfl; have hfz15_0 := blk_frozen BK102.out 0; have hfz15_1 := blk_frozen BK102.out 1))
                  go_roundg k1
                  case measure => have := HK1.out; omega
                  case rel => exact ⟨(wrap64 (x7_1 + 1)), (by first | rfl | (simp; done) | (simp [*]; done)), H', ⟨by have := HK1.out; omega⟩, ⟨by repeat (first | (with_reducible first | exact HB.out | apply below_alloc | apply pw_below_drewN | apply below_drew1 | refine below_set ?_ GE102.out) | exact HB.out)⟩⟩
          · rw [if_neg c4] at H
            exact absurd H (by simp)
        · rw [if_neg c3] at H
          exact absurd H (by simp)
      · rw [if_neg c2] at H
        have c2b0 : decide (x7_1 < (l0.length : Int)) = false := decide_eq_false c2
        clear c2
        obtain rfl := Option.some.inj H
        go_wp2
        go_ret
        exact ⟨by first | rfl | (simp [errW_none, errW_some] <;> rfl) | (simp [*, errW_none, errW_some] <;> rfl), by repeat (first | (with_reducible first | exact HB.out | apply below_alloc | apply pw_below_drewN | apply below_drew1) | exact HB.out)⟩
/-! ### laws_sameInts: function 35 -/
def laws_sameInts.l0 : Nat → List Int → List Int → Int → Int → Option (Bool)
  | 0, _, _, _, _ => none
  | k + 1, x0, x1, x12, x13 => if x13 < x12 then (if 0 ≤ x13 then (if x13 < (x0.length : Int) then (if x13 < (x1.length : Int) then (if (rd x0 x13) = (rd x1 x13) then (laws_sameInts.l0 k x0 x1 x12 (wrap64 (x13 + 1))) else (some false)) else (none)) else (none)) else (none)) else (some true)
def laws_sameInts.f (k : Nat) (l0 : List Int) (l1 : List Int) : Option (Bool) := if (l0.length : Int) = (l1.length : Int) then (laws_sameInts.l0 k l0 l1 (l0.length : Int) 0) else (some false)
theorem laws_sameInts.mono_l : ∀ k, (∀ y0 y1 y2 y3, LeO (laws_sameInts.l0 k y0 y1 y2 y3) (laws_sameInts.l0 (k + 1) y0 y1 y2 y3))
  | 0 => fun _ _ _ _ r h => by simp [laws_sameInts.l0] at h
  | k + 1 => by
    have ih0 := laws_sameInts.mono_l k
    · intro y0 y1 y2 y3
      unfold laws_sameInts.l0
      repeat' first
      | (with_reducible exact ih0 _ _ _ _)
      | (with_reducible exact LeO.refl _)
      | (with_reducible exact LeO.none _)
      | (with_reducible refine LeO.ite ?_ ?_)
      | (with_reducible refine LeO.bind ?_ (fun _ => ?_))
      | exact ih0 _ _ _ _
      | exact LeO.none _
      | refine LeO.ite ?_ ?_
      | refine LeO.bind ?_ (fun _ => ?_)
theorem laws_sameInts.mono : ∀ a0 a1 k, LeO (laws_sameInts.f k a0 a1) (laws_sameInts.f (k + 1) a0 a1) := by
  intro a0 a1 k
  have ih0 := laws_sameInts.mono_l k
  unfold laws_sameInts.f
  repeat' first
      | (with_reducible exact ih0 _ _ _ _)
      | (with_reducible exact LeO.refl _)
      | (with_reducible exact LeO.none _)
      | (with_reducible refine LeO.ite ?_ ?_)
      | (with_reducible refine LeO.bind ?_ (fun _ => ?_))
      | exact ih0 _ _ _ _
      | exact LeO.none _
      | refine LeO.ite ?_ ?_
      | refine LeO.bind ?_ (fun _ => ?_)
set_option maxHeartbeats 8000000 in
set_option maxRecDepth 100000 in
theorem laws_sameInts.calls (k : Nat) (A0 : Option Addr) (c0 : Nat) (l0 : List Int) (A1 : Option Addr) (c1 : Nat) (l1 : List Int) (r : Bool) (w : World) (hr0 : Kd.C (Kd.int .i64) w A0 l0.length l0) (hc0 : l0.length ≤ c0) (hr1 : Kd.C (Kd.int .i64) w A1 l1.length l1) (hc1 : l1.length ≤ c1) (h : laws_sameInts.f k l0 l1 = some r) :
    Calls Tryz.prog 35 #[.slice A0 l0.length c0, .slice A1 l1.length c1] w fun e w' => e = .returned (.bool r) ∧ Drawn0 w w' := by
  have HR0 := Aside0.mk hr0
  have HC0 := Aside0.mk hc0
  clear hr0 hc0
  have HR1 := Aside0.mk hr1
  have HC1 := Aside0.mk hc1
  clear hr1 hc1
  have H : (if (l0.length : Int) = (l1.length : Int) then (laws_sameInts.l0 k l0 l1 (l0.length : Int) 0) else (some false)) = some r := h
  clear h
  by_cases c3 : (l0.length : Int) = (l1.length : Int)
  · rw [if_pos c3] at H
    have c3b0 : ((l0.length : Int) == (l1.length : Int)) = true := beq_iff_eq.mpr c3
    have c3b1 : ((l0.length : Int) != (l1.length : Int)) = false := bne_eq_false_iff_eq.mpr c3
    have c3b2 : (l0.length == l1.length) = true := by first | simpa using c3 | (simp at c3 ⊢; omega)
    clear c3
    have H' := Aside0.mk H
    clear H
    go_enter Tryz.func35, Tryz.ntmps35
    go_wp2
    repeat (go_quiet (fail); try go_wp2)
    go_loopg [13] k (fun kq v13 w' => ∃ (x13_1 : Int), v13 = .int .i64 x13_1 ∧ Aside0 (laws_sameInts.l0 kq l0 l1 (l0.length : Int) x13_1 = some r) ∧ Aside0 (kq ≤ k) ∧ Drawn0 w w')
    case atStart => exact ⟨(0), (by first | rfl | (simp; done) | (simp [*]; done)), H', ⟨Nat.le_refl _⟩, by repeat (first | exact Drawn0.refl _ | apply Drawn0.step)⟩
    case round =>
      clear H'
      try clear c1
      try clear p2
      try clear c3
      try clear c3b0
      try clear c3b1
      try clear c3b2
      obtain ⟨x13_1, rfl, HA, HK1, ⟨m1, rfl⟩⟩ := hrel
      cases gk with
      | zero => exact absurd HA.out (by simp [laws_sameInts.l0])
      | succ k1 =>
        have H := HA.out
        clear HA
        simp only [laws_sameInts.l0] at H
        by_cases c4 : x13_1 < (l0.length : Int)
        · rw [if_pos c4] at H
          have c4b0 : decide (x13_1 < (l0.length : Int)) = true := decide_eq_true c4
          clear c4
          by_cases c5 : 0 ≤ x13_1
          · rw [if_pos c5] at H
            have c5b0 : decide (0 ≤ x13_1) = true := decide_eq_true c5
            clear c5
            by_cases c6 : x13_1 < (l0.length : Int)
            · rw [if_pos c6] at H
              have c6b0 : decide (x13_1 < (l0.length : Int)) = true := decide_eq_true c6
              clear c6
              by_cases c7 : x13_1 < (l1.length : Int)
              · rw [if_pos c7] at H
                have c7b0 : decide (x13_1 < (l1.length : Int)) = true := decide_eq_true c7
                clear c7
                by_cases c8 : (rd l0 x13_1) = (rd l1 x13_1)
                · rw [if_pos c8] at H
                  have c8b0 : ((rd l0 x13_1) == (rd l1 x13_1)) = true := beq_iff_eq.mpr c8
                  have c8b1 : ((rd l0 x13_1) != (rd l1 x13_1)) = false := bne_eq_false_iff_eq.mpr c8
                  clear c8
                  have H' := Aside0.mk H
                  clear H
                  have p152 : 0 ≤ (x13_1 : Int) := of_decide_eq_true (by first | (with_reducible assumption) | assumption)
                  have q152 : x13_1 < (l0.length : Int) := of_decide_eq_true (by first | (with_reducible assumption) | assumption)
                  obtain ⟨ad152, e152, hx152_0⟩ := Kd.at_int HR0.out x13_1 p152 q152
                  cases e152
                  replace p152 := eq_true p152
                  replace q152 := eq_true q152
                  have p153 : 0 ≤ (x13_1 : Int) := of_decide_eq_true (by first | (with_reducible assumption) | assumption)
                  have q153 : x13_1 < (l1.length : Int) := of_decide_eq_true (by first | (with_reducible assumption) | assumption)
                  obtain ⟨ad153, e153, hx153_0⟩ := Kd.at_int HR1.out x13_1 p153 q153
                  cases e153
                  replace p153 := eq_true p153
                  replace q153 := eq_true q153
                  go_wp2
                  repeat (go_quiet (fail); try go_wp2)
                  go_roundg k1
                  case measure => have := HK1.out; omega
                  case rel => exact ⟨(wrap64 (x13_1 + 1)), (by first | rfl | (simp; done) | (simp [*]; done)), H', ⟨by have := HK1.out; omega⟩, by repeat (first | exact Drawn0.refl _ | apply Drawn0.step)⟩
                · rw [if_neg c8] at H
                  have c8b0 : ((rd l0 x13_1) == (rd l1 x13_1)) = false := beq_eq_false_iff_ne.mpr c8
                  have c8b1 : ((rd l0 x13_1) != (rd l1 x13_1)) = true := bne_iff_ne.mpr c8
                  obtain rfl := Option.some.inj H
                  have p152 : 0 ≤ (x13_1 : Int) := of_decide_eq_true (by first | (with_reducible assumption) | assumption)
                  have q152 : x13_1 < (l0.length : Int) := of_decide_eq_true (by first | (with_reducible assumption) | assumption)
                  obtain ⟨ad152, e152, hx152_0⟩ := Kd.at_int HR0.out x13_1 p152 q152
                  cases e152
                  replace p152 := eq_true p152
                  replace q152 := eq_true q152
                  have p153 : 0 ≤ (x13_1 : Int) := of_decide_eq_true (by first | (with_reducible assumption) | assumption)
                  have q153 : x13_1 < (l1.length : Int) := of_decide_eq_true (by first | (with_reducible assumption) | assumption)
                  obtain ⟨ad153, e153, hx153_0⟩ := Kd.at_int HR1.out x13_1 p153 q153
                  cases e153
                  replace p153 := eq_true p153
                  replace q153 := eq_true q153
                  go_wp2
                  repeat (go_quiet (fail); try go_wp2)
                  go_ret
                  exact ⟨by first | rfl | (simp; done) | (simp [*]; done), by repeat (first | exact Drawn0.refl _ | apply Drawn0.step)⟩
              · rw [if_neg c7] at H
                exact absurd H (by simp)
            · rw [if_neg c6] at H
              exact absurd H (by simp)
          · rw [if_neg c5] at H
            exact absurd H (by simp)
        · rw [if_neg c4] at H
          have c4b0 : decide (x13_1 < (l0.length : Int)) = false := decide_eq_false c4
          clear c4
          obtain rfl := Option.some.inj H
          go_wp2
          repeat (go_quiet (fail); try go_wp2)
          go_ret
          exact ⟨by first | rfl | (simp; done) | (simp [*]; done), by repeat (first | exact Drawn0.refl _ | apply Drawn0.step)⟩
  · rw [if_neg c3] at H
    have c3b0 : ((l0.length : Int) == (l1.length : Int)) = false := beq_eq_false_iff_ne.mpr c3
    have c3b1 : ((l0.length : Int) != (l1.length : Int)) = true := bne_iff_ne.mpr c3
    have c3b2 : (l0.length == l1.length) = false := by first | simpa using c3 | (simp at c3 ⊢; omega)
    obtain rfl := Option.some.inj H
    go_enter Tryz.func35, Tryz.ntmps35
    go_wp2
    repeat (go_quiet (fail); try go_wp2)
    go_ret
    exact ⟨by first | rfl | (simp; done) | (simp [*]; done), by repeat (first | exact Drawn0.refl _ | apply Drawn0.step)⟩
/-! ### spec_Decimal: function 41 -/
def spec_Decimal.f : Nat → Int → Option (ByteArray)
  | 0, _ => none
  | k + 1, a0 => if a0 < 10 then (some (strOfNums (([(wrap64 (48 + (Int.tmod a0 10))) % 256] : List Int)))) else ((spec_Decimal.f k (wrap64 (Int.tdiv a0 10))).bind fun t182 => ((spec_Decimal.f k (Int.tmod a0 10)).bind fun t183 => (if t182.size + t183.size ≤ 9223372036854775807 then (some (t182 ++ t183)) else (none))))
theorem spec_Decimal.mono_l : ∀ k, (∀ y0, LeO (spec_Decimal.f k y0) (spec_Decimal.f (k + 1) y0))
  | 0 => fun _ r h => by simp [spec_Decimal.f] at h
  | k + 1 => by
    have ih0 := spec_Decimal.mono_l k
    · intro y0
      unfold spec_Decimal.f
      repeat' first
      | (with_reducible exact ih0 _)
      | (with_reducible exact LeO.refl _)
      | (with_reducible exact LeO.none _)
      | (with_reducible refine LeO.ite ?_ ?_)
      | (with_reducible refine LeO.bind ?_ (fun _ => ?_))
      | exact ih0 _
      | exact LeO.none _
      | refine LeO.ite ?_ ?_
      | refine LeO.bind ?_ (fun _ => ?_)
theorem spec_Decimal.mono : ∀ a0 k, LeO (spec_Decimal.f k a0) (spec_Decimal.f (k + 1) a0) := by
  intro a0 k
  have ih0 := spec_Decimal.mono_l k
  exact ih0 a0
set_option maxHeartbeats 8000000 in
set_option maxRecDepth 100000 in
theorem spec_Decimal.calls (k : Nat) : ∀ (a0 : Int) (r : ByteArray) (w : World) (h : spec_Decimal.f k a0 = some r),
    Calls Tryz.prog 41 #[.int .i64 a0] w fun e w' => e = .returned (.string r) ∧ Below w.heap.size w w' := by
  induction k using Nat.strongRecOn with
  | _ k ih =>
  intro a0 r w h
  cases k with
  | zero => exact absurd h (by simp [spec_Decimal.f])
  | succ k =>
  simp only [spec_Decimal.f] at h
  have HB := Aside0.mk (Below.refl w.heap.size w)
  have H : (if a0 < 10 then (some (strOfNums (([(wrap64 (48 + (Int.tmod a0 10))) % 256] : List Int)))) else ((spec_Decimal.f k (wrap64 (Int.tdiv a0 10))).bind fun t182 => ((spec_Decimal.f k (Int.tmod a0 10)).bind fun t183 => (if t182.size + t183.size ≤ 9223372036854775807 then (some (t182 ++ t183)) else (none))))) = some r := h
  clear h
  by_cases c2 : a0 < 10
  · rw [if_pos c2] at H
    have c2b0 : decide (a0 < 10) = true := decide_eq_true c2
    clear c2
    obtain ⟨y179, hy179⟩ : ∃ y_ : List Int, y_ = (([(wrap64 (48 + (Int.tmod a0 10))) % 256] : List Int)) := ⟨_, rfl⟩
    replace H : (some (strOfNums y179)) = some r := by first | (rw [hy179]; with_reducible exact H) | (have H2_ := (Option.bind_some _ _).symm.trans H; rw [hy179]; with_reducible exact H2_) | (have H2_ := (Option.bind_some _ _).symm.trans H; with_reducible exact H2_) | with_reducible exact H | (rw [hy179]; exact H) | exact H
    have Ny179 := Aside0.mk hy179
    clear hy179
    obtain rfl := Option.some.inj H
    go_enter Tryz.func41, Tryz.ntmps41
    go_wp2_with (first | ((with_reducible refine gate_dst (N := 9) rfl ?_); refine Kd.R_lit (Kd.int .u8) _ 5 ?hg (N := 9) ?hd (xs := ([(wrap64 (48 + (Int.tmod a0 10))) % 256] : List Int)) (inner := [.int .u8 ((wrap64 (48 + (Int.tmod a0 10))) % 256)]) (ok := fun _ => True) (okp := fun _ => True) ?hr ?hp (fun _ hk => hk) trivial (Below.refl _ _) (Nat.le_refl _) (by simp) ?_; (case hd => rfl); (case hg => rfl); (case hr => first | (go_simp; done) | (go_simp; rfl)); (case hp => exact (Reps.one (show Kd.M (Kd.int .u8) _ _ _ ((wrap64 (48 + (Int.tmod a0 10))) % 256) [.int .u8 ((wrap64 (48 + (Int.tmod a0 10))) % 256)] from rfl) (Reps.none _ _))); intro v180 w3 ho4 hb hg_ hnew_; clear hg_ hnew_; (first | rw [← Ny179.out] at ho4 | (simp only [Int.reduceToNat] at ho4; rw [← Ny179.out] at ho4)); have n0_ := Aside0.mk (Kd.R_lower ho4 (below_size (Xb HB.out))); have n1_ := Aside0.mk (below_step (Xb HB.out) hb); clear HB; have HO181 := n0_; have HB := n1_; clear n0_ n1_; clear hb ho4; have hcv5 := own_string (P := Tryz.prog) Tryz.underlying58 Tryz.underlying5 Tryz.underlying9 (Kd.own_of_R HO181.out)))
    go_ret
    exact ⟨by first | rfl | (simp [errW_none, errW_some] <;> rfl) | (simp [*, errW_none, errW_some] <;> rfl), by repeat (first | (with_reducible first | exact HB.out | apply below_alloc | apply pw_below_drewN | apply below_drew1) | exact HB.out)⟩
  · rw [if_neg c2] at H
    have c2b0 : decide (a0 < 10) = false := decide_eq_false c2
    clear c2
    replace H := Option.bind_eq_some_iff.mp H
    obtain ⟨t182, A60, H⟩ := H
    replace H : ((spec_Decimal.f k (Int.tmod a0 10)).bind fun t183 => (if t182.size + t183.size ≤ 9223372036854775807 then (some (t182 ++ t183)) else (none))) = some r := H
    have A6 := Aside0.mk A60
    clear A60
    replace H := Option.bind_eq_some_iff.mp H
    obtain ⟨t183, A70, H⟩ := H
    replace H : (if t182.size + t183.size ≤ 9223372036854775807 then (some (t182 ++ t183)) else (none)) = some r := H
    have A7 := Aside0.mk A70
    clear A70
    by_cases c8 : t182.size + t183.size ≤ 9223372036854775807
    · rw [if_pos c8] at H
      have c8b0 := eq_true c8
      have c8b1 : decide (t182.size + t183.size ≤ 9223372036854775807) = true := decide_eq_true c8
      try have c8b2 : (9223372036854775807 < t182.size + t183.size) = False := eq_false (Nat.not_lt.2 c8)
      obtain rfl := Option.some.inj H
      go_enter Tryz.func41, Tryz.ntmps41
      go_wp2_with (first | ((with_reducible refine gate_callee (f := 41) rfl ?_); refine goesL_ (some 13) rfl rfl Tryz.func41 (by kernel_rfl) rfl #[.int .i64 (wrap64 (Int.tdiv a0 10))] rfl (by (try simp only [List.map_toArray, List.map_cons, List.map_nil]); first | done | rfl | (simp only [List.length_drop, List.length_take]; rfl)) ?_; (with_reducible refine (ih k (by omega) (wrap64 (Int.tdiv a0 10)) t182 _ A6.out).mono ?_); rintro e w9 ⟨rfl, hb⟩; refine ⟨_, rfl, ?_⟩; have n0_ := Aside0.mk (below_step (Xb HB.out) hb); clear HB; have HB := n0_; clear n0_; (try clear hb); (try clear hb2); (try clear hk); (try clear hi)) | ((with_reducible refine gate_callee (f := 41) rfl ?_); refine goesL_ (some 16) rfl rfl Tryz.func41 (by kernel_rfl) rfl #[.int .i64 (Int.tmod a0 10)] rfl (by (try simp only [List.map_toArray, List.map_cons, List.map_nil]); first | done | rfl | (simp only [List.length_drop, List.length_take]; rfl)) ?_; (with_reducible refine (ih k (by omega) (Int.tmod a0 10) t183 _ A7.out).mono ?_); rintro e w10 ⟨rfl, hb⟩; refine ⟨_, rfl, ?_⟩; have n0_ := Aside0.mk (below_step (Xb HB.out) hb); clear HB; have HB := n0_; clear n0_; (try clear hb); (try clear hb2); (try clear hk); (try clear hi)))
      go_ret
      exact ⟨by first | rfl | (simp [errW_none, errW_some] <;> rfl) | (simp [*, errW_none, errW_some] <;> rfl), by repeat (first | (with_reducible first | exact HB.out | apply below_alloc | apply pw_below_drewN | apply below_drew1) | exact HB.out)⟩
    · rw [if_neg c8] at H
      exact absurd H (by simp)
/-! ### spec_HolesText: function 18 -/
mutual
def spec_HolesText.l0 : Nat → Bool → Bool → ByteArray → List (S67) → Int → Int → Option (ByteArray)
  | 0, _, _, _, _, _, _ => none
  | k + 1, x1, x2, x7, x10, x11, x12 => if x12 < x11 then (if 0 ≤ x12 then (if x12 < (x10.length : Int) then (if x12 > 0 then (if x7.size + 1 ≤ 9223372036854775807 then (if x1 = true then (if (x7 ++ (⟨#[44]⟩ : ByteArray)).size + 1 ≤ 9223372036854775807 then (spec_HolesText.j1 k x1 x2 ((x7 ++ (⟨#[44]⟩ : ByteArray)) ++ (⟨#[32]⟩ : ByteArray)) x10 x11 x12 ((rd_T67 x10 x12).f0) ((rd_T67 x10 x12).f1)) else (none)) else (spec_HolesText.j1 k x1 x2 (x7 ++ (⟨#[44]⟩ : ByteArray)) x10 x11 x12 ((rd_T67 x10 x12).f0) ((rd_T67 x10 x12).f1))) else (none)) else (spec_HolesText.j1 k x1 x2 x7 x10 x11 x12 ((rd_T67 x10 x12).f0) ((rd_T67 x10 x12).f1))) else (none)) else (none)) else (some x7)
def spec_HolesText.j1 : Nat → Bool → Bool → ByteArray → List (S67) → Int → Int → Int → Int → Option (ByteArray)
  | 0, _, _, _, _, _, _, _, _ => none
  | k + 1, x1, x2, x7, x10, x11, x12, x186000, x186001 => (spec_Decimal.f k x186000).bind fun t186 => (if x7.size + t186.size ≤ 9223372036854775807 then (if x186001 > x186000 then ((spec_Decimal.f k x186001).bind fun t187 => (if 1 + t187.size ≤ 9223372036854775807 then (if (x7 ++ t186).size + ((⟨#[45]⟩ : ByteArray) ++ t187).size ≤ 9223372036854775807 then (spec_HolesText.l0 k x1 x2 ((x7 ++ t186) ++ ((⟨#[45]⟩ : ByteArray) ++ t187)) x10 x11 (wrap64 (x12 + 1))) else (none)) else (none))) else (if x2 = true then ((spec_Decimal.f k x186001).bind fun t188 => (if 1 + t188.size ≤ 9223372036854775807 then (if (x7 ++ t186).size + ((⟨#[45]⟩ : ByteArray) ++ t188).size ≤ 9223372036854775807 then (spec_HolesText.l0 k x1 x2 ((x7 ++ t186) ++ ((⟨#[45]⟩ : ByteArray) ++ t188)) x10 x11 (wrap64 (x12 + 1))) else (none)) else (none))) else (spec_HolesText.l0 k x1 x2 (x7 ++ t186) x10 x11 (wrap64 (x12 + 1))))) else (none))
end
def spec_HolesText.f (k : Nat) (l0 : List (S67)) (a1 : Bool) (a2 : Bool) : Option (ByteArray) := spec_HolesText.l0 k a1 a2 (⟨#[]⟩ : ByteArray) l0 (l0.length : Int) 0
theorem spec_HolesText.mono_l : ∀ k, (∀ y0 y1 y2 y3 y4 y5, LeO (spec_HolesText.l0 k y0 y1 y2 y3 y4 y5) (spec_HolesText.l0 (k + 1) y0 y1 y2 y3 y4 y5)) ∧ (∀ y0 y1 y2 y3 y4 y5 y6 y7, LeO (spec_HolesText.j1 k y0 y1 y2 y3 y4 y5 y6 y7) (spec_HolesText.j1 (k + 1) y0 y1 y2 y3 y4 y5 y6 y7))
  | 0 => ⟨fun _ _ _ _ _ _ r h => by simp [spec_HolesText.l0] at h, fun _ _ _ _ _ _ _ _ r h => by simp [spec_HolesText.j1] at h⟩
  | k + 1 => by
    obtain ⟨ih0, ih1⟩ := spec_HolesText.mono_l k
    refine ⟨?_, ?_⟩
    · intro y0 y1 y2 y3 y4 y5
      unfold spec_HolesText.l0
      repeat' first
      | (with_reducible exact ih0 _ _ _ _ _ _)
      | (with_reducible exact ih1 _ _ _ _ _ _ _ _)
      | (with_reducible exact spec_Decimal.mono _ _)
      | (with_reducible exact LeO.refl _)
      | (with_reducible exact LeO.none _)
      | (with_reducible refine LeO.ite ?_ ?_)
      | (with_reducible refine LeO.bind ?_ (fun _ => ?_))
      | exact ih0 _ _ _ _ _ _
      | exact ih1 _ _ _ _ _ _ _ _
      | exact spec_Decimal.mono _ _
      | exact LeO.none _
      | refine LeO.ite ?_ ?_
      | refine LeO.bind ?_ (fun _ => ?_)
    · intro y0 y1 y2 y3 y4 y5 y6 y7
      unfold spec_HolesText.j1
      repeat' first
      | (with_reducible exact ih0 _ _ _ _ _ _)
      | (with_reducible exact ih1 _ _ _ _ _ _ _ _)
      | (with_reducible exact spec_Decimal.mono _ _)
      | (with_reducible exact LeO.refl _)
      | (with_reducible exact LeO.none _)
      | (with_reducible refine LeO.ite ?_ ?_)
      | (with_reducible refine LeO.bind ?_ (fun _ => ?_))
      | exact ih0 _ _ _ _ _ _
      | exact ih1 _ _ _ _ _ _ _ _
      | exact spec_Decimal.mono _ _
      | exact LeO.none _
      | refine LeO.ite ?_ ?_
      | refine LeO.bind ?_ (fun _ => ?_)
theorem spec_HolesText.mono : ∀ a0 a1 a2 k, LeO (spec_HolesText.f k a0 a1 a2) (spec_HolesText.f (k + 1) a0 a1 a2) := by
  intro a0 a1 a2 k
  obtain ⟨ih0, ih1⟩ := spec_HolesText.mono_l k
  unfold spec_HolesText.f
  repeat' first
      | (with_reducible exact ih0 _ _ _ _ _ _)
      | (with_reducible exact ih1 _ _ _ _ _ _ _ _)
      | (with_reducible exact spec_Decimal.mono _ _)
      | (with_reducible exact LeO.refl _)
      | (with_reducible exact LeO.none _)
      | (with_reducible refine LeO.ite ?_ ?_)
      | (with_reducible refine LeO.bind ?_ (fun _ => ?_))
      | exact ih0 _ _ _ _ _ _
      | exact ih1 _ _ _ _ _ _ _ _
      | exact spec_Decimal.mono _ _
      | exact LeO.none _
      | refine LeO.ite ?_ ?_
      | refine LeO.bind ?_ (fun _ => ?_)
set_option maxHeartbeats 8000000 in
set_option maxRecDepth 100000 in
theorem spec_HolesText.calls (k : Nat) (A0 : Option Addr) (c0 : Nat) (l0 : List (S67)) (a1 : Bool) (a2 : Bool) (r : ByteArray) (w : World) (hr0 : Kd.C k67 w A0 l0.length l0) (hc0 : l0.length ≤ c0) (h : spec_HolesText.f k l0 a1 a2 = some r) :
    Calls Tryz.prog 18 #[.slice A0 l0.length c0, .bool a1, .bool a2] w fun e w' => e = .returned (.string r) ∧ Below w.heap.size w w' := by
  have hu67 := Tryz.underlying67
  have HR0 := Aside0.mk hr0
  have HC0 := Aside0.mk hc0
  clear hr0 hc0
  have HB := Aside0.mk (Below.refl w.heap.size w)
  have H : (spec_HolesText.l0 k a1 a2 (⟨#[]⟩ : ByteArray) l0 (l0.length : Int) 0) = some r := h
  clear h
  have H' := Aside0.mk H
  clear H
  go_enter Tryz.func18, Tryz.ntmps18
  go_wp2
  go_loopg [7, 12] k (fun kq v7 v12 w' => ∃ (x7_1 : ByteArray) (x12_1 : Int), v7 = .string x7_1 ∧ v12 = .int .i64 x12_1 ∧ Aside0 (spec_HolesText.l0 kq a1 a2 x7_1 l0 (l0.length : Int) x12_1 = some r) ∧ Aside0 (kq ≤ k) ∧ Aside0 (Below w.heap.size w w'))
  case atStart => exact ⟨((⟨#[]⟩ : ByteArray)), (0), (by first | rfl | (simp; done) | (simp [*]; done)), (by first | rfl | (simp; done) | (simp [*]; done)), H', ⟨Nat.le_refl _⟩, ⟨by repeat (first | (with_reducible first | exact HB.out | apply below_alloc | apply pw_below_drewN | apply below_drew1) | exact HB.out)⟩⟩
  case round =>
    clear H'
    try clear c1
    try clear p2
    obtain ⟨x7_1, x12_1, rfl, rfl, HA, HK1, HB⟩ := hrel
    cases gk with
    | zero => exact absurd HA.out (by simp [spec_HolesText.l0])
    | succ k1 =>
      have H := HA.out
      clear HA
      simp only [spec_HolesText.l0] at H
      by_cases c4 : x12_1 < (l0.length : Int)
      · rw [if_pos c4] at H
        have c4b0 : decide (x12_1 < (l0.length : Int)) = true := decide_eq_true c4
        clear c4
        by_cases c5 : 0 ≤ x12_1
        · rw [if_pos c5] at H
          have c5b0 : decide (0 ≤ x12_1) = true := decide_eq_true c5
          clear c5
          by_cases c6 : x12_1 < (l0.length : Int)
          · rw [if_pos c6] at H
            have c6b0 : decide (x12_1 < (l0.length : Int)) = true := decide_eq_true c6
            clear c6
            have HC7 := Aside0.mk H
            clear H
            have p184 : 0 ≤ (x12_1 : Int) := of_decide_eq_true (by first | (with_reducible assumption) | assumption)
            have q184 : x12_1 < (l0.length : Int) := of_decide_eq_true (by first | (with_reducible assumption) | assumption)
            obtain ⟨ad184, e184, hx184_0, hx184_1⟩ := at_T67 HR0.out x12_1 p184 q184
            cases e184
            replace hx184_0 := (HB.out.cell (World.block_lt_of_cell? w _ hx184_0)).trans hx184_0
            replace hx184_1 := (HB.out.cell (World.block_lt_of_cell? w _ hx184_1)).trans hx184_1
            replace p184 := eq_true p184
            replace q184 := eq_true q184
            go_upto_if 18 with (first | ((with_reducible refine gate_dst (N := 9) rfl ?_); refine box_event ?hg (N := 9) ?hd (cs := #[.int .i64 0, .int .i64 0]) (t := 67) ?hr ?_; (case hd => rfl); (case hg => rfl); (case hr => first | (go_simp; done) | (go_simp; rfl)); intro gb185 hg w8 hbox hb; have n0_ := Aside0.mk (below_step (Xb HB.out) hb); have n1_ := Aside0.mk (hbox); have n2_ := Aside0.mk ((by rw [hg]; exact (below_size (Xb HB.out)) : w.heap.size ≤ gb185)); have n3_ := Aside0.mk ((by rw [hg]; exact (below_size (Xb HB.out)) : w.heap.size ≤ gb185)); clear HB; have HB := n0_; have BK185 := n1_; have GW185 := n2_; have GE185 := n3_; clear n0_ n1_ n2_ n3_; clear hb hbox hg; have hcz9_0 : w8.cell? ⟨gb185, 0, none⟩ = some (.int .i64 0) := (blk_cell BK185.out 0).trans rfl; have hcz9_1 : w8.cell? ⟨gb185, 1, none⟩ = some (.int .i64 0) := (blk_cell BK185.out 1).trans rfl; have hfz9_0 := blk_frozen BK185.out 0; have hfz9_1 := blk_frozen BK185.out 1))
            (try simp only [Act.put, List.setIfInBounds_toArray, List.set_cons_zero, List.set_cons_succ])
            go_cut [7] (fun v7 wc => ∃ (kq : Nat) (x7_6 : ByteArray), v7 = .string x7_6 ∧ Aside0 (spec_HolesText.j1 kq a1 a2 x7_6 l0 (l0.length : Int) x12_1 ((rd_T67 l0 x12_1).f0) ((rd_T67 l0 x12_1).f1) = some r) ∧ Aside0 (kq ≤ k1) ∧ Aside0 (wc.heap[gb185]? = some (.cells #[.int .i64 ((rd_T67 l0 x12_1).f0), .int .i64 ((rd_T67 l0 x12_1).f1)] 67 (0, 0))) ∧ Aside0 (Below w.heap.size w wc))
            case first =>
              have H := HC7.out
              clear HC7
              by_cases c10 : x12_1 > 0
              · rw [if_pos c10] at H
                have c10b0 : decide (0 < x12_1) = true := decide_eq_true c10
                clear c10
                (first | rw [c10b0] | (simp only [i64_w, i32_w]; rw [c10b0]) | skip)
                by_cases c11 : x7_1.size + 1 ≤ 9223372036854775807
                · rw [if_pos c11] at H
                  have c11b0 := eq_true c11
                  have c11b1 : decide (x7_1.size + 1 ≤ 9223372036854775807) = true := decide_eq_true c11
                  try have c11b2 : (9223372036854775807 < x7_1.size + 1) = False := eq_false (Nat.not_lt.2 c11)
                  by_cases c12 : a1 = true
                  · subst c12
                    have H1 : (if (x7_1 ++ (⟨#[44]⟩ : ByteArray)).size + 1 ≤ 9223372036854775807 then (spec_HolesText.j1 k1 true a2 ((x7_1 ++ (⟨#[44]⟩ : ByteArray)) ++ (⟨#[32]⟩ : ByteArray)) l0 (l0.length : Int) x12_1 ((rd_T67 l0 x12_1).f0) ((rd_T67 l0 x12_1).f1)) else (none)) = some r := by rw [if_pos rfl] at H; exact H
                    clear H
                    have H := H1
                    clear H1
                    by_cases c13 : (x7_1 ++ (⟨#[44]⟩ : ByteArray)).size + 1 ≤ 9223372036854775807
                    · rw [if_pos c13] at H
                      have c13b0 := eq_true c13
                      have c13b1 : decide ((x7_1 ++ (⟨#[44]⟩ : ByteArray)).size + 1 ≤ 9223372036854775807) = true := decide_eq_true c13
                      try have c13b2 : (9223372036854775807 < (x7_1 ++ (⟨#[44]⟩ : ByteArray)).size + 1) = False := eq_false (Nat.not_lt.2 c13)
                      have HX_ : (x7_1 ++ (⟨#[44]⟩ : ByteArray)).size = x7_1.size + 1 := by rw [ByteArray.size_append]; rfl
                      have c13b3 : x7_1.size + 1 + 1 ≤ 9223372036854775807 := by rw [← HX_]; exact c13
                      replace c13b3 := eq_true c13b3
                      have H' := Aside0.mk H
                      clear H
                      go_wp2
                      go_meet
                      case rel => exact ⟨_, ((x7_1 ++ (⟨#[44]⟩ : ByteArray)) ++ (⟨#[32]⟩ : ByteArray)), (by first | rfl | (simp; done) | (simp [*]; done)), H', ⟨by have := HK1.out; first | omega | exact Nat.le_refl _⟩, ⟨by (with_reducible repeat (first | refine blk_drewN ?_ _ | refine blk_drew ?_ | refine blk_alloc ?_ _)); refine blk_put (cs := #[.int .i64 ((rd_T67 l0 x12_1).f0), .int .i64 0]) ?_ 1 _ rfl; (with_reducible repeat (first | refine blk_drewN ?_ _ | refine blk_drew ?_ | refine blk_alloc ?_ _)); refine blk_put (cs := #[.int .i64 0, .int .i64 0]) ?_ 0 _ rfl; (with_reducible repeat (first | refine blk_drewN ?_ _ | refine blk_drew ?_ | refine blk_alloc ?_ _)); exact BK185.out⟩, ⟨by repeat (first | (with_reducible first | exact HB.out | apply below_alloc | apply pw_below_drewN | apply below_drew1 | refine below_set ?_ GE185.out) | exact HB.out)⟩⟩
                    · rw [if_neg c13] at H
                      exact absurd H (by simp)
                  · replace c12 := Bool.eq_false_iff.mpr c12
                    subst c12
                    have H1 : (spec_HolesText.j1 k1 false a2 (x7_1 ++ (⟨#[44]⟩ : ByteArray)) l0 (l0.length : Int) x12_1 ((rd_T67 l0 x12_1).f0) ((rd_T67 l0 x12_1).f1)) = some r := by rw [if_neg (show ¬ (false = true) by decide)] at H; exact H
                    clear H
                    have H := H1
                    clear H1
                    have H' := Aside0.mk H
                    clear H
                    go_wp2
                    go_meet
                    case rel => exact ⟨_, (x7_1 ++ (⟨#[44]⟩ : ByteArray)), (by first | rfl | (simp; done) | (simp [*]; done)), H', ⟨by have := HK1.out; first | omega | exact Nat.le_refl _⟩, ⟨by (with_reducible repeat (first | refine blk_drewN ?_ _ | refine blk_drew ?_ | refine blk_alloc ?_ _)); refine blk_put (cs := #[.int .i64 ((rd_T67 l0 x12_1).f0), .int .i64 0]) ?_ 1 _ rfl; (with_reducible repeat (first | refine blk_drewN ?_ _ | refine blk_drew ?_ | refine blk_alloc ?_ _)); refine blk_put (cs := #[.int .i64 0, .int .i64 0]) ?_ 0 _ rfl; (with_reducible repeat (first | refine blk_drewN ?_ _ | refine blk_drew ?_ | refine blk_alloc ?_ _)); exact BK185.out⟩, ⟨by repeat (first | (with_reducible first | exact HB.out | apply below_alloc | apply pw_below_drewN | apply below_drew1 | refine below_set ?_ GE185.out) | exact HB.out)⟩⟩
                · rw [if_neg c11] at H
                  exact absurd H (by simp)
              · rw [if_neg c10] at H
                have c10b0 : decide (0 < x12_1) = false := decide_eq_false c10
                clear c10
                (first | rw [c10b0] | (simp only [i64_w, i32_w]; rw [c10b0]) | skip)
                have H' := Aside0.mk H
                clear H
                go_wp2
                go_meet
                case rel => exact ⟨_, (x7_1), (by first | rfl | (simp; done) | (simp [*]; done)), H', ⟨by have := HK1.out; first | omega | exact Nat.le_refl _⟩, ⟨by (with_reducible repeat (first | refine blk_drewN ?_ _ | refine blk_drew ?_ | refine blk_alloc ?_ _)); refine blk_put (cs := #[.int .i64 ((rd_T67 l0 x12_1).f0), .int .i64 0]) ?_ 1 _ rfl; (with_reducible repeat (first | refine blk_drewN ?_ _ | refine blk_drew ?_ | refine blk_alloc ?_ _)); refine blk_put (cs := #[.int .i64 0, .int .i64 0]) ?_ 0 _ rfl; (with_reducible repeat (first | refine blk_drewN ?_ _ | refine blk_drew ?_ | refine blk_alloc ?_ _)); exact BK185.out⟩, ⟨by repeat (first | (with_reducible first | exact HB.out | apply below_alloc | apply pw_below_drewN | apply below_drew1 | refine below_set ?_ GE185.out) | exact HB.out)⟩⟩
            case rest =>
              clear HC7
              try clear c1
              try clear p1
              try clear q1
              try clear hx1
              try clear p2
              try clear c4
              try clear c4b0
              try clear c5
              try clear c5b0
              try clear c6
              try clear c6b0
              try clear c10
              try clear c10b0
              try clear c11
              try clear c11b0
              try clear c11b1
              try clear c11b2
              try clear c12
              try clear c13
              try clear c13b0
              try clear c13b1
              try clear c13b2
              try clear hcz9_0
              try clear hcz9_1
              try clear hfz9_0
              try clear hfz9_1
              try clear hx184_0
              try clear hx184_1
              try clear p184
              try clear p2
              try clear q184
              obtain ⟨kq, x7_6, rfl, HA, HJ6, BK185, HB⟩ := hcut
              cases kq with
              | zero => exact absurd HA.out (by simp [spec_HolesText.j1])
              | succ kj6 =>
                have H := HA.out
                clear HA
                simp only [spec_HolesText.j1] at H
                replace H := Option.bind_eq_some_iff.mp H
                obtain ⟨t186, A140, H⟩ := H
                replace H : (if x7_6.size + t186.size ≤ 9223372036854775807 then (if ((rd_T67 l0 x12_1).f1) > ((rd_T67 l0 x12_1).f0) then ((spec_Decimal.f kj6 ((rd_T67 l0 x12_1).f1)).bind fun t187 => (if 1 + t187.size ≤ 9223372036854775807 then (if (x7_6 ++ t186).size + ((⟨#[45]⟩ : ByteArray) ++ t187).size ≤ 9223372036854775807 then (spec_HolesText.l0 kj6 a1 a2 ((x7_6 ++ t186) ++ ((⟨#[45]⟩ : ByteArray) ++ t187)) l0 (l0.length : Int) (wrap64 (x12_1 + 1))) else (none)) else (none))) else (if a2 = true then ((spec_Decimal.f kj6 ((rd_T67 l0 x12_1).f1)).bind fun t188 => (if 1 + t188.size ≤ 9223372036854775807 then (if (x7_6 ++ t186).size + ((⟨#[45]⟩ : ByteArray) ++ t188).size ≤ 9223372036854775807 then (spec_HolesText.l0 kj6 a1 a2 ((x7_6 ++ t186) ++ ((⟨#[45]⟩ : ByteArray) ++ t188)) l0 (l0.length : Int) (wrap64 (x12_1 + 1))) else (none)) else (none))) else (spec_HolesText.l0 kj6 a1 a2 (x7_6 ++ t186) l0 (l0.length : Int) (wrap64 (x12_1 + 1))))) else (none)) = some r := H
                have A14 := Aside0.mk A140
                clear A140
                by_cases c15 : x7_6.size + t186.size ≤ 9223372036854775807
                · rw [if_pos c15] at H
                  have c15b0 := eq_true c15
                  have c15b1 : decide (x7_6.size + t186.size ≤ 9223372036854775807) = true := decide_eq_true c15
                  try have c15b2 : (9223372036854775807 < x7_6.size + t186.size) = False := eq_false (Nat.not_lt.2 c15)
                  by_cases c16 : ((rd_T67 l0 x12_1).f1) > ((rd_T67 l0 x12_1).f0)
                  · rw [if_pos c16] at H
                    have c16b0 : decide (((rd_T67 l0 x12_1).f0) < ((rd_T67 l0 x12_1).f1)) = true := decide_eq_true c16
                    clear c16
                    replace H := Option.bind_eq_some_iff.mp H
                    obtain ⟨t187, A170, H⟩ := H
                    replace H : (if 1 + t187.size ≤ 9223372036854775807 then (if (x7_6 ++ t186).size + ((⟨#[45]⟩ : ByteArray) ++ t187).size ≤ 9223372036854775807 then (spec_HolesText.l0 kj6 a1 a2 ((x7_6 ++ t186) ++ ((⟨#[45]⟩ : ByteArray) ++ t187)) l0 (l0.length : Int) (wrap64 (x12_1 + 1))) else (none)) else (none)) = some r := H
                    have A17 := Aside0.mk A170
                    clear A170
                    by_cases c18 : 1 + t187.size ≤ 9223372036854775807
                    · rw [if_pos c18] at H
                      have c18b0 := eq_true c18
                      have c18b1 : decide (1 + t187.size ≤ 9223372036854775807) = true := decide_eq_true c18
                      try have c18b2 : (9223372036854775807 < 1 + t187.size) = False := eq_false (Nat.not_lt.2 c18)
                      by_cases c19 : (x7_6 ++ t186).size + ((⟨#[45]⟩ : ByteArray) ++ t187).size ≤ 9223372036854775807
                      · rw [if_pos c19] at H
                        have c19b0 := eq_true c19
                        have c19b1 : decide ((x7_6 ++ t186).size + ((⟨#[45]⟩ : ByteArray) ++ t187).size ≤ 9223372036854775807) = true := decide_eq_true c19
                        try have c19b2 : (9223372036854775807 < (x7_6 ++ t186).size + ((⟨#[45]⟩ : ByteArray) ++ t187).size) = False := eq_false (Nat.not_lt.2 c19)
                        have H' := Aside0.mk H
                        clear H
                        have hcz20_0 : wc.cell? ⟨gb185, 0, none⟩ = some (.int .i64 ((rd_T67 l0 x12_1).f0)) := (blk_cell BK185.out 0).trans rfl
                        have hcz20_1 : wc.cell? ⟨gb185, 1, none⟩ = some (.int .i64 ((rd_T67 l0 x12_1).f1)) := (blk_cell BK185.out 1).trans rfl
                        have hfz20_0 := blk_frozen BK185.out 0
                        have hfz20_1 := blk_frozen BK185.out 1
                        go_wp2_with (first | ((with_reducible refine gate_callee (f := 41) rfl ?_); refine goesL_ (some 27) rfl rfl Tryz.func41 (by kernel_rfl) rfl #[.int .i64 ((rd_T67 l0 x12_1).f0)] rfl (by (try simp only [List.map_toArray, List.map_cons, List.map_nil]); first | done | rfl | (simp only [List.length_drop, List.length_take]; rfl)) ?_; (with_reducible refine (spec_Decimal.calls kj6 ((rd_T67 l0 x12_1).f0) t186 _ A14.out).mono ?_); rintro e w21 ⟨rfl, hb⟩; refine ⟨_, rfl, ?_⟩; have n0_ := Aside0.mk (blk_below (g := gb185) (o := .cells #[.int .i64 ((rd_T67 l0 x12_1).f0), .int .i64 ((rd_T67 l0 x12_1).f1)] 67 (0, 0)) (by (with_reducible repeat (first | refine blk_drewN ?_ _ | refine blk_drew ?_ | refine blk_alloc ?_ _)); exact BK185.out) hb); have n1_ := Aside0.mk (below_step (by repeat (first | (with_reducible first | exact HB.out | apply below_alloc | apply pw_below_drewN | apply below_drew1 | refine below_set ?_ GE185.out) | exact HB.out)) hb); clear BK185; clear HB; have BK185 := n0_; have HB := n1_; clear n0_ n1_; (try clear hb); (try clear hb2); (try clear hk); (try clear hi); have hcz22_0 : w21.cell? ⟨gb185, 0, none⟩ = some (.int .i64 ((rd_T67 l0 x12_1).f0)) := (blk_cell BK185.out 0).trans rfl; have hcz22_1 : w21.cell? ⟨gb185, 1, none⟩ = some (.int .i64 ((rd_T67 l0 x12_1).f1)) := (blk_cell BK185.out 1).trans rfl; have hfz22_0 := blk_frozen BK185.out 0; have hfz22_1 := blk_frozen BK185.out 1) | ((with_reducible refine gate_callee (f := 41) rfl ?_); refine goesL_ (some 40) rfl rfl Tryz.func41 (by kernel_rfl) rfl #[.int .i64 ((rd_T67 l0 x12_1).f1)] rfl (by (try simp only [List.map_toArray, List.map_cons, List.map_nil]); first | done | rfl | (simp only [List.length_drop, List.length_take]; rfl)) ?_; (with_reducible refine (spec_Decimal.calls kj6 ((rd_T67 l0 x12_1).f1) t187 _ A17.out).mono ?_); rintro e w23 ⟨rfl, hb⟩; refine ⟨_, rfl, ?_⟩; have n0_ := Aside0.mk (blk_below (g := gb185) (o := .cells #[.int .i64 ((rd_T67 l0 x12_1).f0), .int .i64 ((rd_T67 l0 x12_1).f1)] 67 (0, 0)) (by (with_reducible repeat (first | refine blk_drewN ?_ _ | refine blk_drew ?_ | refine blk_alloc ?_ _)); exact BK185.out) hb); have n1_ := Aside0.mk (below_step (by repeat (first | (with_reducible first | exact HB.out | apply below_alloc | apply pw_below_drewN | apply below_drew1 | refine below_set ?_ GE185.out) | exact HB.out)) hb); clear BK185; clear HB; have BK185 := n0_; have HB := n1_; clear n0_ n1_; (try clear hb); (try clear hb2); (try clear hk); (try clear hi)))
                        go_roundg kj6
                        case measure => have := HK1.out; have := HJ6.out; omega
                        case rel => exact ⟨((x7_6 ++ t186) ++ ((⟨#[45]⟩ : ByteArray) ++ t187)), (wrap64 (x12_1 + 1)), (by first | rfl | (simp; done) | (simp [*]; done)), (by first | rfl | (simp; done) | (simp [*]; done)), H', ⟨by have := HK1.out; have := HJ6.out; omega⟩, ⟨by repeat (first | (with_reducible first | exact HB.out | apply below_alloc | apply pw_below_drewN | apply below_drew1 | refine below_set ?_ GE185.out) | exact HB.out)⟩⟩
                      · rw [if_neg c19] at H
                        exact absurd H (by simp)
                    · rw [if_neg c18] at H
                      exact absurd H (by simp)
                  · rw [if_neg c16] at H
                    have c16b0 : decide (((rd_T67 l0 x12_1).f0) < ((rd_T67 l0 x12_1).f1)) = false := decide_eq_false c16
                    clear c16
                    by_cases c24 : a2 = true
                    · subst c24
                      have H1 : ((spec_Decimal.f kj6 ((rd_T67 l0 x12_1).f1)).bind fun t188 => (if 1 + t188.size ≤ 9223372036854775807 then (if (x7_6 ++ t186).size + ((⟨#[45]⟩ : ByteArray) ++ t188).size ≤ 9223372036854775807 then (spec_HolesText.l0 kj6 a1 true ((x7_6 ++ t186) ++ ((⟨#[45]⟩ : ByteArray) ++ t188)) l0 (l0.length : Int) (wrap64 (x12_1 + 1))) else (none)) else (none))) = some r := by rw [if_pos rfl] at H; exact H
                      clear H
                      have H := H1
                      clear H1
                      replace H := Option.bind_eq_some_iff.mp H
                      obtain ⟨t188, A250, H⟩ := H
                      replace H : (if 1 + t188.size ≤ 9223372036854775807 then (if (x7_6 ++ t186).size + ((⟨#[45]⟩ : ByteArray) ++ t188).size ≤ 9223372036854775807 then (spec_HolesText.l0 kj6 a1 true ((x7_6 ++ t186) ++ ((⟨#[45]⟩ : ByteArray) ++ t188)) l0 (l0.length : Int) (wrap64 (x12_1 + 1))) else (none)) else (none)) = some r := H
                      have A25 := Aside0.mk A250
                      clear A250
                      by_cases c26 : 1 + t188.size ≤ 9223372036854775807
                      · rw [if_pos c26] at H
                        have c26b0 := eq_true c26
                        have c26b1 : decide (1 + t188.size ≤ 9223372036854775807) = true := decide_eq_true c26
                        try have c26b2 : (9223372036854775807 < 1 + t188.size) = False := eq_false (Nat.not_lt.2 c26)
                        by_cases c27 : (x7_6 ++ t186).size + ((⟨#[45]⟩ : ByteArray) ++ t188).size ≤ 9223372036854775807
                        · rw [if_pos c27] at H
                          have c27b0 := eq_true c27
                          have c27b1 : decide ((x7_6 ++ t186).size + ((⟨#[45]⟩ : ByteArray) ++ t188).size ≤ 9223372036854775807) = true := decide_eq_true c27
                          try have c27b2 : (9223372036854775807 < (x7_6 ++ t186).size + ((⟨#[45]⟩ : ByteArray) ++ t188).size) = False := eq_false (Nat.not_lt.2 c27)
                          have H' := Aside0.mk H
                          clear H
                          have hcz28_0 : wc.cell? ⟨gb185, 0, none⟩ = some (.int .i64 ((rd_T67 l0 x12_1).f0)) := (blk_cell BK185.out 0).trans rfl
                          have hcz28_1 : wc.cell? ⟨gb185, 1, none⟩ = some (.int .i64 ((rd_T67 l0 x12_1).f1)) := (blk_cell BK185.out 1).trans rfl
                          have hfz28_0 := blk_frozen BK185.out 0
                          have hfz28_1 := blk_frozen BK185.out 1
                          go_wp2_with (first | ((with_reducible refine gate_callee (f := 41) rfl ?_); refine goesL_ (some 27) rfl rfl Tryz.func41 (by kernel_rfl) rfl #[.int .i64 ((rd_T67 l0 x12_1).f0)] rfl (by (try simp only [List.map_toArray, List.map_cons, List.map_nil]); first | done | rfl | (simp only [List.length_drop, List.length_take]; rfl)) ?_; (with_reducible refine (spec_Decimal.calls kj6 ((rd_T67 l0 x12_1).f0) t186 _ A14.out).mono ?_); rintro e w29 ⟨rfl, hb⟩; refine ⟨_, rfl, ?_⟩; have n0_ := Aside0.mk (blk_below (g := gb185) (o := .cells #[.int .i64 ((rd_T67 l0 x12_1).f0), .int .i64 ((rd_T67 l0 x12_1).f1)] 67 (0, 0)) (by (with_reducible repeat (first | refine blk_drewN ?_ _ | refine blk_drew ?_ | refine blk_alloc ?_ _)); exact BK185.out) hb); have n1_ := Aside0.mk (below_step (by repeat (first | (with_reducible first | exact HB.out | apply below_alloc | apply pw_below_drewN | apply below_drew1 | refine below_set ?_ GE185.out) | exact HB.out)) hb); clear BK185; clear HB; have BK185 := n0_; have HB := n1_; clear n0_ n1_; (try clear hb); (try clear hb2); (try clear hk); (try clear hi); have hcz30_0 : w29.cell? ⟨gb185, 0, none⟩ = some (.int .i64 ((rd_T67 l0 x12_1).f0)) := (blk_cell BK185.out 0).trans rfl; have hcz30_1 : w29.cell? ⟨gb185, 1, none⟩ = some (.int .i64 ((rd_T67 l0 x12_1).f1)) := (blk_cell BK185.out 1).trans rfl; have hfz30_0 := blk_frozen BK185.out 0; have hfz30_1 := blk_frozen BK185.out 1) | ((with_reducible refine gate_callee (f := 41) rfl ?_); refine goesL_ (some 40) rfl rfl Tryz.func41 (by kernel_rfl) rfl #[.int .i64 ((rd_T67 l0 x12_1).f1)] rfl (by (try simp only [List.map_toArray, List.map_cons, List.map_nil]); first | done | rfl | (simp only [List.length_drop, List.length_take]; rfl)) ?_; (with_reducible refine (spec_Decimal.calls kj6 ((rd_T67 l0 x12_1).f1) t188 _ A25.out).mono ?_); rintro e w31 ⟨rfl, hb⟩; refine ⟨_, rfl, ?_⟩; have n0_ := Aside0.mk (blk_below (g := gb185) (o := .cells #[.int .i64 ((rd_T67 l0 x12_1).f0), .int .i64 ((rd_T67 l0 x12_1).f1)] 67 (0, 0)) (by (with_reducible repeat (first | refine blk_drewN ?_ _ | refine blk_drew ?_ | refine blk_alloc ?_ _)); exact BK185.out) hb); have n1_ := Aside0.mk (below_step (by repeat (first | (with_reducible first | exact HB.out | apply below_alloc | apply pw_below_drewN | apply below_drew1 | refine below_set ?_ GE185.out) | exact HB.out)) hb); clear BK185; clear HB; have BK185 := n0_; have HB := n1_; clear n0_ n1_; (try clear hb); (try clear hb2); (try clear hk); (try clear hi)))
                          go_roundg kj6
                          case measure => have := HK1.out; have := HJ6.out; omega
                          case rel => exact ⟨((x7_6 ++ t186) ++ ((⟨#[45]⟩ : ByteArray) ++ t188)), (wrap64 (x12_1 + 1)), (by first | rfl | (simp; done) | (simp [*]; done)), (by first | rfl | (simp; done) | (simp [*]; done)), H', ⟨by have := HK1.out; have := HJ6.out; omega⟩, ⟨by repeat (first | (with_reducible first | exact HB.out | apply below_alloc | apply pw_below_drewN | apply below_drew1 | refine below_set ?_ GE185.out) | exact HB.out)⟩⟩
                        · rw [if_neg c27] at H
                          exact absurd H (by simp)
                      · rw [if_neg c26] at H
                        exact absurd H (by simp)
                    · replace c24 := Bool.eq_false_iff.mpr c24
                      subst c24
                      have H1 : (spec_HolesText.l0 kj6 a1 false (x7_6 ++ t186) l0 (l0.length : Int) (wrap64 (x12_1 + 1))) = some r := by rw [if_neg (show ¬ (false = true) by decide)] at H; exact H
                      clear H
                      have H := H1
                      clear H1
                      have H' := Aside0.mk H
                      clear H
                      have hcz32_0 : wc.cell? ⟨gb185, 0, none⟩ = some (.int .i64 ((rd_T67 l0 x12_1).f0)) := (blk_cell BK185.out 0).trans rfl
                      have hcz32_1 : wc.cell? ⟨gb185, 1, none⟩ = some (.int .i64 ((rd_T67 l0 x12_1).f1)) := (blk_cell BK185.out 1).trans rfl
                      have hfz32_0 := blk_frozen BK185.out 0
                      have hfz32_1 := blk_frozen BK185.out 1
                      go_wp2_with (first | ((with_reducible refine gate_callee (f := 41) rfl ?_); refine goesL_ (some 27) rfl rfl Tryz.func41 (by kernel_rfl) rfl #[.int .i64 ((rd_T67 l0 x12_1).f0)] rfl (by (try simp only [List.map_toArray, List.map_cons, List.map_nil]); first | done | rfl | (simp only [List.length_drop, List.length_take]; rfl)) ?_; (with_reducible refine (spec_Decimal.calls kj6 ((rd_T67 l0 x12_1).f0) t186 _ A14.out).mono ?_); rintro e w33 ⟨rfl, hb⟩; refine ⟨_, rfl, ?_⟩; have n0_ := Aside0.mk (blk_below (g := gb185) (o := .cells #[.int .i64 ((rd_T67 l0 x12_1).f0), .int .i64 ((rd_T67 l0 x12_1).f1)] 67 (0, 0)) (by (with_reducible repeat (first | refine blk_drewN ?_ _ | refine blk_drew ?_ | refine blk_alloc ?_ _)); exact BK185.out) hb); have n1_ := Aside0.mk (below_step (by repeat (first | (with_reducible first | exact HB.out | apply below_alloc | apply pw_below_drewN | apply below_drew1 | refine below_set ?_ GE185.out) | exact HB.out)) hb); clear BK185; clear HB; have BK185 := n0_; have HB := n1_; clear n0_ n1_; (try clear hb); (try clear hb2); (try clear hk); (try clear hi); have hcz34_0 : w33.cell? ⟨gb185, 0, none⟩ = some (.int .i64 ((rd_T67 l0 x12_1).f0)) := (blk_cell BK185.out 0).trans rfl; have hcz34_1 : w33.cell? ⟨gb185, 1, none⟩ = some (.int .i64 ((rd_T67 l0 x12_1).f1)) := (blk_cell BK185.out 1).trans rfl; have hfz34_0 := blk_frozen BK185.out 0; have hfz34_1 := blk_frozen BK185.out 1))
                      go_roundg kj6
                      case measure => have := HK1.out; have := HJ6.out; omega
                      case rel => exact ⟨(x7_6 ++ t186), (wrap64 (x12_1 + 1)), (by first | rfl | (simp; done) | (simp [*]; done)), (by first | rfl | (simp; done) | (simp [*]; done)), H', ⟨by have := HK1.out; have := HJ6.out; omega⟩, ⟨by repeat (first | (with_reducible first | exact HB.out | apply below_alloc | apply pw_below_drewN | apply below_drew1 | refine below_set ?_ GE185.out) | exact HB.out)⟩⟩
                · rw [if_neg c15] at H
                  exact absurd H (by simp)
          · rw [if_neg c6] at H
            exact absurd H (by simp)
        · rw [if_neg c5] at H
          exact absurd H (by simp)
      · rw [if_neg c4] at H
        have c4b0 : decide (x12_1 < (l0.length : Int)) = false := decide_eq_false c4
        clear c4
        obtain rfl := Option.some.inj H
        go_wp2
        go_ret
        exact ⟨by first | rfl | (simp [errW_none, errW_some] <;> rfl) | (simp [*, errW_none, errW_some] <;> rfl), by repeat (first | (with_reducible first | exact HB.out | apply below_alloc | apply pw_below_drewN | apply below_drew1) | exact HB.out)⟩
/-! ### laws_hole: function 19 -/
def laws_hole.f (l0 : List Bool) (a1 : Int) : Option (Bool) := if a1 < (l0.length : Int) then (if 0 ≤ a1 then (some (rdOf false l0 a1)) else (none)) else (some false)
set_option maxHeartbeats 8000000 in
set_option maxRecDepth 100000 in
theorem laws_hole.calls (A0 : Option Addr) (c0 : Nat) (l0 : List Bool) (a1 : Int) (r : Bool) (w : World) (hr0 : Kd.C Kd.bool w A0 l0.length l0) (hc0 : l0.length ≤ c0) (h : laws_hole.f l0 a1 = some r) :
    Calls Tryz.prog 19 #[.slice A0 l0.length c0, .int .i64 a1] w fun e w' => e = .returned (.bool r) ∧ Drawn0 w w' := by
  have HR0 := Aside0.mk hr0
  have HC0 := Aside0.mk hc0
  clear hr0 hc0
  have H : (if a1 < (l0.length : Int) then (if 0 ≤ a1 then (some (rdOf false l0 a1)) else (none)) else (some false)) = some r := h
  clear h
  by_cases c3 : a1 < (l0.length : Int)
  · rw [if_pos c3] at H
    have c3b0 : decide (a1 < (l0.length : Int)) = true := decide_eq_true c3
    clear c3
    by_cases c4 : 0 ≤ a1
    · rw [if_pos c4] at H
      have c4b0 : decide (0 ≤ a1) = true := decide_eq_true c4
      clear c4
      obtain rfl := Option.some.inj H
      have p189 : 0 ≤ (a1 : Int) := of_decide_eq_true (by first | (with_reducible assumption) | assumption)
      have q189 : a1 < (l0.length : Int) := of_decide_eq_true (by first | (with_reducible assumption) | assumption)
      obtain ⟨ad189, e189, hx189_0⟩ := Kd.at_bool HR0.out a1 p189 q189
      cases e189
      replace p189 := eq_true p189
      replace q189 := eq_true q189
      go_enter Tryz.func19, Tryz.ntmps19
      go_wp2
      go_ret
      exact ⟨by first | rfl | (simp; done) | (simp [*]; done), by repeat (first | exact Drawn0.refl _ | apply Drawn0.step)⟩
    · rw [if_neg c4] at H
      exact absurd H (by simp)
  · rw [if_neg c3] at H
    have c3b0 : decide (a1 < (l0.length : Int)) = false := decide_eq_false c3
    clear c3
    obtain rfl := Option.some.inj H
    go_enter Tryz.func19, Tryz.ntmps19
    go_wp2
    go_ret
    exact ⟨by first | rfl | (simp; done) | (simp [*]; done), by repeat (first | exact Drawn0.refl _ | apply Drawn0.step)⟩
/-! ### spec_Hole: function 20 -/
def spec_Hole.l0 : Nat → Int → List (S67) → Int → Int → Option (Bool)
  | 0, _, _, _, _ => none
  | k + 1, x1, x7, x8, x9 => if x9 < x8 then (if 0 ≤ x9 then (if x9 < (x7.length : Int) then (if x1 ≥ ((rd_T67 x7 x9).f0) then (if x1 ≤ ((rd_T67 x7 x9).f1) then (some true) else (spec_Hole.l0 k x1 x7 x8 (wrap64 (x9 + 1)))) else (spec_Hole.l0 k x1 x7 x8 (wrap64 (x9 + 1)))) else (none)) else (none)) else (some false)
def spec_Hole.f (k : Nat) (l0 : List (S67)) (a1 : Int) : Option (Bool) := spec_Hole.l0 k a1 l0 (l0.length : Int) 0
theorem spec_Hole.mono_l : ∀ k, (∀ y0 y1 y2 y3, LeO (spec_Hole.l0 k y0 y1 y2 y3) (spec_Hole.l0 (k + 1) y0 y1 y2 y3))
  | 0 => fun _ _ _ _ r h => by simp [spec_Hole.l0] at h
  | k + 1 => by
    have ih0 := spec_Hole.mono_l k
    · intro y0 y1 y2 y3
      unfold spec_Hole.l0
      repeat' first
      | (with_reducible exact ih0 _ _ _ _)
      | (with_reducible exact LeO.refl _)
      | (with_reducible exact LeO.none _)
      | (with_reducible refine LeO.ite ?_ ?_)
      | (with_reducible refine LeO.bind ?_ (fun _ => ?_))
      | exact ih0 _ _ _ _
      | exact LeO.none _
      | refine LeO.ite ?_ ?_
      | refine LeO.bind ?_ (fun _ => ?_)
theorem spec_Hole.mono : ∀ a0 a1 k, LeO (spec_Hole.f k a0 a1) (spec_Hole.f (k + 1) a0 a1) := by
  intro a0 a1 k
  have ih0 := spec_Hole.mono_l k
  unfold spec_Hole.f
  repeat' first
      | (with_reducible exact ih0 _ _ _ _)
      | (with_reducible exact LeO.refl _)
      | (with_reducible exact LeO.none _)
      | (with_reducible refine LeO.ite ?_ ?_)
      | (with_reducible refine LeO.bind ?_ (fun _ => ?_))
      | exact ih0 _ _ _ _
      | exact LeO.none _
      | refine LeO.ite ?_ ?_
      | refine LeO.bind ?_ (fun _ => ?_)
set_option maxHeartbeats 8000000 in
set_option maxRecDepth 100000 in
theorem spec_Hole.calls (k : Nat) (A0 : Option Addr) (c0 : Nat) (l0 : List (S67)) (a1 : Int) (r : Bool) (w : World) (hr0 : Kd.C k67 w A0 l0.length l0) (hc0 : l0.length ≤ c0) (h : spec_Hole.f k l0 a1 = some r) :
    Calls Tryz.prog 20 #[.slice A0 l0.length c0, .int .i64 a1] w fun e w' => e = .returned (.bool r) ∧ Below w.heap.size w w' := by
  have hu67 := Tryz.underlying67
  have HR0 := Aside0.mk hr0
  have HC0 := Aside0.mk hc0
  clear hr0 hc0
  have HB := Aside0.mk (Below.refl w.heap.size w)
  have H : (spec_Hole.l0 k a1 l0 (l0.length : Int) 0) = some r := h
  clear h
  have H' := Aside0.mk H
  clear H
  go_enter Tryz.func20, Tryz.ntmps20
  go_wp2
  go_loopg [9] k (fun kq v9 w' => ∃ (x9_1 : Int), v9 = .int .i64 x9_1 ∧ Aside0 (spec_Hole.l0 kq a1 l0 (l0.length : Int) x9_1 = some r) ∧ Aside0 (kq ≤ k) ∧ Aside0 (Below w.heap.size w w'))
  case atStart => exact ⟨(0), (by first | rfl | (simp; done) | (simp [*]; done)), H', ⟨Nat.le_refl _⟩, ⟨by repeat (first | (with_reducible first | exact HB.out | apply below_alloc | apply pw_below_drewN | apply below_drew1) | exact HB.out)⟩⟩
  case round =>
    clear H'
    try clear c2
    try clear p2
    obtain ⟨x9_1, rfl, HA, HK1, HB⟩ := hrel
    cases gk with
    | zero => exact absurd HA.out (by simp [spec_Hole.l0])
    | succ k1 =>
      have H := HA.out
      clear HA
      simp only [spec_Hole.l0] at H
      by_cases c3 : x9_1 < (l0.length : Int)
      · rw [if_pos c3] at H
        have c3b0 : decide (x9_1 < (l0.length : Int)) = true := decide_eq_true c3
        clear c3
        by_cases c4 : 0 ≤ x9_1
        · rw [if_pos c4] at H
          have c4b0 : decide (0 ≤ x9_1) = true := decide_eq_true c4
          clear c4
          by_cases c5 : x9_1 < (l0.length : Int)
          · rw [if_pos c5] at H
            have c5b0 : decide (x9_1 < (l0.length : Int)) = true := decide_eq_true c5
            clear c5
            by_cases c6 : a1 ≥ ((rd_T67 l0 x9_1).f0)
            · rw [if_pos c6] at H
              have c6b0 : decide (((rd_T67 l0 x9_1).f0) ≤ a1) = true := decide_eq_true c6
              clear c6
              by_cases c7 : a1 ≤ ((rd_T67 l0 x9_1).f1)
              · rw [if_pos c7] at H
                have c7b0 : decide (a1 ≤ ((rd_T67 l0 x9_1).f1)) = true := decide_eq_true c7
                clear c7
                obtain rfl := Option.some.inj H
                have p190 : 0 ≤ (x9_1 : Int) := of_decide_eq_true (by first | (with_reducible assumption) | assumption)
                have q190 : x9_1 < (l0.length : Int) := of_decide_eq_true (by first | (with_reducible assumption) | assumption)
                obtain ⟨ad190, e190, hx190_0, hx190_1⟩ := at_T67 HR0.out x9_1 p190 q190
                cases e190
                replace hx190_0 := (HB.out.cell (World.block_lt_of_cell? w _ hx190_0)).trans hx190_0
                replace hx190_1 := (HB.out.cell (World.block_lt_of_cell? w _ hx190_1)).trans hx190_1
                replace p190 := eq_true p190
                replace q190 := eq_true q190
                go_wp2_with (first | ((with_reducible refine gate_dst (N := 6) rfl ?_); refine box_event ?hg (N := 6) ?hd (cs := #[.int .i64 0, .int .i64 0]) (t := 67) ?hr ?_; (case hd => rfl); (case hg => rfl); (case hr => first | (go_simp; done) | (go_simp; rfl)); intro gb191 hg w8 hbox hb; have n0_ := Aside0.mk (below_step (Xb HB.out) hb); have n1_ := Aside0.mk (hbox); have n2_ := Aside0.mk ((by rw [hg]; exact (below_size (Xb HB.out)) : w.heap.size ≤ gb191)); have n3_ := Aside0.mk ((by rw [hg]; exact (below_size (Xb HB.out)) : w.heap.size ≤ gb191)); clear HB; have HB := n0_; have BK191 := n1_; have GW191 := n2_; have GE191 := n3_; clear n0_ n1_ n2_ n3_; clear hb hbox hg; have hcz9_0 : w8.cell? ⟨gb191, 0, none⟩ = some (.int .i64 0) := (blk_cell BK191.out 0).trans rfl; have hcz9_1 : w8.cell? ⟨gb191, 1, none⟩ = some (.int .i64 0) := (blk_cell BK191.out 1).trans rfl; have hfz9_0 := blk_frozen BK191.out 0; have hfz9_1 := blk_frozen BK191.out 1))
                go_ret
                exact ⟨by first | rfl | (simp [errW_none, errW_some] <;> rfl) | (simp [*, errW_none, errW_some] <;> rfl), by repeat (first | (with_reducible first | exact HB.out | apply below_alloc | apply pw_below_drewN | apply below_drew1 | refine below_set ?_ GE191.out) | exact HB.out)⟩
              · rw [if_neg c7] at H
                have c7b0 : decide (a1 ≤ ((rd_T67 l0 x9_1).f1)) = false := decide_eq_false c7
                clear c7
                have H' := Aside0.mk H
                clear H
                have p190 : 0 ≤ (x9_1 : Int) := of_decide_eq_true (by first | (with_reducible assumption) | assumption)
                have q190 : x9_1 < (l0.length : Int) := of_decide_eq_true (by first | (with_reducible assumption) | assumption)
                obtain ⟨ad190, e190, hx190_0, hx190_1⟩ := at_T67 HR0.out x9_1 p190 q190
                cases e190
                replace hx190_0 := (HB.out.cell (World.block_lt_of_cell? w _ hx190_0)).trans hx190_0
                replace hx190_1 := (HB.out.cell (World.block_lt_of_cell? w _ hx190_1)).trans hx190_1
                replace p190 := eq_true p190
                replace q190 := eq_true q190
                go_wp2_with (first | ((with_reducible refine gate_dst (N := 6) rfl ?_); refine box_event ?hg (N := 6) ?hd (cs := #[.int .i64 0, .int .i64 0]) (t := 67) ?hr ?_; (case hd => rfl); (case hg => rfl); (case hr => first | (go_simp; done) | (go_simp; rfl)); intro gb191 hg w10 hbox hb; have n0_ := Aside0.mk (below_step (Xb HB.out) hb); have n1_ := Aside0.mk (hbox); have n2_ := Aside0.mk ((by rw [hg]; exact (below_size (Xb HB.out)) : w.heap.size ≤ gb191)); have n3_ := Aside0.mk ((by rw [hg]; exact (below_size (Xb HB.out)) : w.heap.size ≤ gb191)); clear HB; have HB := n0_; have BK191 := n1_; have GW191 := n2_; have GE191 := n3_; clear n0_ n1_ n2_ n3_; clear hb hbox hg; have hcz11_0 : w10.cell? ⟨gb191, 0, none⟩ = some (.int .i64 0) := (blk_cell BK191.out 0).trans rfl; have hcz11_1 : w10.cell? ⟨gb191, 1, none⟩ = some (.int .i64 0) := (blk_cell BK191.out 1).trans rfl; have hfz11_0 := blk_frozen BK191.out 0; have hfz11_1 := blk_frozen BK191.out 1))
                go_roundg k1
                case measure => have := HK1.out; omega
                case rel => exact ⟨(wrap64 (x9_1 + 1)), (by first | rfl | (simp; done) | (simp [*]; done)), H', ⟨by have := HK1.out; omega⟩, ⟨by repeat (first | (with_reducible first | exact HB.out | apply below_alloc | apply pw_below_drewN | apply below_drew1 | refine below_set ?_ GE191.out) | exact HB.out)⟩⟩
            · rw [if_neg c6] at H
              have c6b0 : decide (((rd_T67 l0 x9_1).f0) ≤ a1) = false := decide_eq_false c6
              clear c6
              have H' := Aside0.mk H
              clear H
              have p190 : 0 ≤ (x9_1 : Int) := of_decide_eq_true (by first | (with_reducible assumption) | assumption)
              have q190 : x9_1 < (l0.length : Int) := of_decide_eq_true (by first | (with_reducible assumption) | assumption)
              obtain ⟨ad190, e190, hx190_0, hx190_1⟩ := at_T67 HR0.out x9_1 p190 q190
              cases e190
              replace hx190_0 := (HB.out.cell (World.block_lt_of_cell? w _ hx190_0)).trans hx190_0
              replace hx190_1 := (HB.out.cell (World.block_lt_of_cell? w _ hx190_1)).trans hx190_1
              replace p190 := eq_true p190
              replace q190 := eq_true q190
              go_wp2_with (first | ((with_reducible refine gate_dst (N := 6) rfl ?_); refine box_event ?hg (N := 6) ?hd (cs := #[.int .i64 0, .int .i64 0]) (t := 67) ?hr ?_; (case hd => rfl); (case hg => rfl); (case hr => first | (go_simp; done) | (go_simp; rfl)); intro gb191 hg w12 hbox hb; have n0_ := Aside0.mk (below_step (Xb HB.out) hb); have n1_ := Aside0.mk (hbox); have n2_ := Aside0.mk ((by rw [hg]; exact (below_size (Xb HB.out)) : w.heap.size ≤ gb191)); have n3_ := Aside0.mk ((by rw [hg]; exact (below_size (Xb HB.out)) : w.heap.size ≤ gb191)); clear HB; have HB := n0_; have BK191 := n1_; have GW191 := n2_; have GE191 := n3_; clear n0_ n1_ n2_ n3_; clear hb hbox hg; have hcz13_0 : w12.cell? ⟨gb191, 0, none⟩ = some (.int .i64 0) := (blk_cell BK191.out 0).trans rfl; have hcz13_1 : w12.cell? ⟨gb191, 1, none⟩ = some (.int .i64 0) := (blk_cell BK191.out 1).trans rfl; have hfz13_0 := blk_frozen BK191.out 0; have hfz13_1 := blk_frozen BK191.out 1))
              go_roundg k1
              case measure => have := HK1.out; omega
              case rel => exact ⟨(wrap64 (x9_1 + 1)), (by first | rfl | (simp; done) | (simp [*]; done)), H', ⟨by have := HK1.out; omega⟩, ⟨by repeat (first | (with_reducible first | exact HB.out | apply below_alloc | apply pw_below_drewN | apply below_drew1 | refine below_set ?_ GE191.out) | exact HB.out)⟩⟩
          · rw [if_neg c5] at H
            exact absurd H (by simp)
        · rw [if_neg c4] at H
          exact absurd H (by simp)
      · rw [if_neg c3] at H
        have c3b0 : decide (x9_1 < (l0.length : Int)) = false := decide_eq_false c3
        clear c3
        obtain rfl := Option.some.inj H
        go_wp2
        go_ret
        exact ⟨by first | rfl | (simp [errW_none, errW_some] <;> rfl) | (simp [*, errW_none, errW_some] <;> rfl), by repeat (first | (with_reducible first | exact HB.out | apply below_alloc | apply pw_below_drewN | apply below_drew1) | exact HB.out)⟩
end Go.Proofs.YtnoolgbbpekomaaGreatDoor.T
