/- As the print has them, turned for the tree: laws_zzFits4, laws_zzFits3, spec_Within, spec_MatchesOk, spec_Turns. -/
import Derived.Test.YtnoolgbbpekomaaGreatDoorVz
import Derived.Test.YtnoolgbbpekomaaGreatDoorUa
namespace Go.Proofs.YtnoolgbbpekomaaGreatDoor.T
open Go.RowKit YtnoolgbbpekomaaGreatDoorW.PrintWords YtnoolgbbpekomaaGreatDoorW.PrintLast YtnoolgbbpekomaaGreatDoorW.PrintMore
attribute [local go_sem] max2_int min2_int max_two min_two max_three min_three max_four min_four   -- for this text's walks alone
set_option linter.unusedVariables false
set_option linter.unusedSimpArgs false
/-! ### laws_zzFits4: function 29 -/
def laws_zzFits4.f (a0_0 : Bool) (a0_1 : ByteArray) (l0_2 : List (S67)) (a0_3 : Int) : Option (Bool) := if (a0_1.size : Int) > 2147483647 then (some false) else (if (l0_2.length : Int) > 2147483647 then (some false) else (some true))
set_option maxHeartbeats 8000000 in
set_option maxRecDepth 100000 in
theorem laws_zzFits4.calls (a0_0 : Bool) (a0_1 : ByteArray) (A0_2 : Option Addr) (c0_2 : Nat) (l0_2 : List (S67)) (a0_3 : Int) (r : Bool) (w : World) (hr0_2 : Kd.C k67 w A0_2 l0_2.length l0_2) (hc0_2 : l0_2.length ≤ c0_2) (h : laws_zzFits4.f a0_0 a0_1 l0_2 a0_3 = some r) :
    Calls Tryz.prog 29 #[.agg #[.bool a0_0, .string a0_1, .slice A0_2 l0_2.length c0_2, .int .i64 a0_3]] w fun e w' => e = .returned (.bool r) ∧ Below w.heap.size w w' := by
  have hu42 := Tryz.underlying42
  have HR0_2 := Aside0.mk hr0_2
  have HC0_2 := Aside0.mk hc0_2
  clear hr0_2 hc0_2
  have HB := Aside0.mk (Below.refl w.heap.size w)
  have H : (if (a0_1.size : Int) > 2147483647 then (some false) else (if (l0_2.length : Int) > 2147483647 then (some false) else (some true))) = some r := h
  clear h
  by_cases c2 : (a0_1.size : Int) > 2147483647
  · rw [if_pos c2] at H
    have c2b0 : decide (2147483647 < (a0_1.size : Int)) = true := decide_eq_true c2
    have c2b1 : decide (2147483647 < a0_1.size) = true := decide_eq_true (by omega)
    clear c2
    obtain rfl := Option.some.inj H
    go_enter Tryz.func29, Tryz.ntmps29
    go_wp2_with (first | ((with_reducible refine gate_dst (N := 1) rfl ?_); refine box_event ?hg (N := 1) ?hd (cs := #[.bool a0_0, .string a0_1, .slice A0_2 l0_2.length c0_2, .int .i64 a0_3]) (t := 42) ?hr ?_; (case hd => rfl); (case hg => rfl); (case hr => first | (go_simp; done) | (go_simp; rfl)); intro gb216 hg w3 hbox hb; have n0_ := Aside0.mk (below_step (Xb HB.out) hb); have n1_ := Aside0.mk (hbox); have n2_ := Aside0.mk ((by rw [hg]; exact (below_size (Xb HB.out)) : w.heap.size ≤ gb216)); have n3_ := Aside0.mk ((by rw [hg]; exact (below_size (Xb HB.out)) : w.heap.size ≤ gb216)); clear HB; have HB := n0_; have BK216 := n1_; have GW216 := n2_; have GE216 := n3_; clear n0_ n1_ n2_ n3_; clear hb hbox hg; have hcz4_0 : w3.cell? ⟨gb216, 0, none⟩ = some (.bool a0_0) := (blk_cell BK216.out 0).trans rfl; have hcz4_1 : w3.cell? ⟨gb216, 1, none⟩ = some (.string a0_1) := (blk_cell BK216.out 1).trans rfl; have hcz4_2 : w3.cell? ⟨gb216, 2, none⟩ = some (.slice A0_2 l0_2.length c0_2) := (blk_cell BK216.out 2).trans rfl; have hcz4_3 : w3.cell? ⟨gb216, 3, none⟩ = some (.int .i64 a0_3) := (blk_cell BK216.out 3).trans rfl; have hfz4_0 := blk_frozen BK216.out 0; have hfz4_1 := blk_frozen BK216.out 1; have hfz4_2 := blk_frozen BK216.out 2; have hfz4_3 := blk_frozen BK216.out 3))
    go_ret
    exact ⟨by first | rfl | (simp [errW_none, errW_some] <;> rfl) | (simp [*, errW_none, errW_some] <;> rfl), by repeat (first | (with_reducible first | exact HB.out | apply below_alloc | apply pw_below_drewN | apply below_drew1 | refine below_set ?_ GE216.out) | exact HB.out)⟩
  · rw [if_neg c2] at H
    have c2b0 : decide (2147483647 < (a0_1.size : Int)) = false := decide_eq_false c2
    have c2b1 : decide (2147483647 < a0_1.size) = false := decide_eq_false (by omega)
    clear c2
    by_cases c5 : (l0_2.length : Int) > 2147483647
    · rw [if_pos c5] at H
      have c5b0 : decide (2147483647 < (l0_2.length : Int)) = true := decide_eq_true c5
      have c5b1 : decide (2147483647 < l0_2.length) = true := decide_eq_true (by omega)
      clear c5
      obtain rfl := Option.some.inj H
      go_enter Tryz.func29, Tryz.ntmps29
      go_wp2_with (first | ((with_reducible refine gate_dst (N := 1) rfl ?_); refine box_event ?hg (N := 1) ?hd (cs := #[.bool a0_0, .string a0_1, .slice A0_2 l0_2.length c0_2, .int .i64 a0_3]) (t := 42) ?hr ?_; (case hd => rfl); (case hg => rfl); (case hr => first | (go_simp; done) | (go_simp; rfl)); intro gb216 hg w6 hbox hb; have n0_ := Aside0.mk (below_step (Xb HB.out) hb); have n1_ := Aside0.mk (hbox); have n2_ := Aside0.mk ((by rw [hg]; exact (below_size (Xb HB.out)) : w.heap.size ≤ gb216)); have n3_ := Aside0.mk ((by rw [hg]; exact (below_size (Xb HB.out)) : w.heap.size ≤ gb216)); clear HB; have HB := n0_; have BK216 := n1_; have GW216 := n2_; have GE216 := n3_; clear n0_ n1_ n2_ n3_; clear hb hbox hg; have hcz7_0 : w6.cell? ⟨gb216, 0, none⟩ = some (.bool a0_0) := (blk_cell BK216.out 0).trans rfl; have hcz7_1 : w6.cell? ⟨gb216, 1, none⟩ = some (.string a0_1) := (blk_cell BK216.out 1).trans rfl; have hcz7_2 : w6.cell? ⟨gb216, 2, none⟩ = some (.slice A0_2 l0_2.length c0_2) := (blk_cell BK216.out 2).trans rfl; have hcz7_3 : w6.cell? ⟨gb216, 3, none⟩ = some (.int .i64 a0_3) := (blk_cell BK216.out 3).trans rfl; have hfz7_0 := blk_frozen BK216.out 0; have hfz7_1 := blk_frozen BK216.out 1; have hfz7_2 := blk_frozen BK216.out 2; have hfz7_3 := blk_frozen BK216.out 3))
      go_ret
      exact ⟨by first | rfl | (simp [errW_none, errW_some] <;> rfl) | (simp [*, errW_none, errW_some] <;> rfl), by repeat (first | (with_reducible first | exact HB.out | apply below_alloc | apply pw_below_drewN | apply below_drew1 | refine below_set ?_ GE216.out) | exact HB.out)⟩
    · rw [if_neg c5] at H
      have c5b0 : decide (2147483647 < (l0_2.length : Int)) = false := decide_eq_false c5
      have c5b1 : decide (2147483647 < l0_2.length) = false := decide_eq_false (by omega)
      clear c5
      obtain rfl := Option.some.inj H
      go_enter Tryz.func29, Tryz.ntmps29
      go_wp2_with (first | ((with_reducible refine gate_dst (N := 1) rfl ?_); refine box_event ?hg (N := 1) ?hd (cs := #[.bool a0_0, .string a0_1, .slice A0_2 l0_2.length c0_2, .int .i64 a0_3]) (t := 42) ?hr ?_; (case hd => rfl); (case hg => rfl); (case hr => first | (go_simp; done) | (go_simp; rfl)); intro gb216 hg w8 hbox hb; have n0_ := Aside0.mk (below_step (Xb HB.out) hb); have n1_ := Aside0.mk (hbox); have n2_ := Aside0.mk ((by rw [hg]; exact (below_size (Xb HB.out)) : w.heap.size ≤ gb216)); have n3_ := Aside0.mk ((by rw [hg]; exact (below_size (Xb HB.out)) : w.heap.size ≤ gb216)); clear HB; have HB := n0_; have BK216 := n1_; have GW216 := n2_; have GE216 := n3_; clear n0_ n1_ n2_ n3_; clear hb hbox hg; have hcz9_0 : w8.cell? ⟨gb216, 0, none⟩ = some (.bool a0_0) := (blk_cell BK216.out 0).trans rfl; have hcz9_1 : w8.cell? ⟨gb216, 1, none⟩ = some (.string a0_1) := (blk_cell BK216.out 1).trans rfl; have hcz9_2 : w8.cell? ⟨gb216, 2, none⟩ = some (.slice A0_2 l0_2.length c0_2) := (blk_cell BK216.out 2).trans rfl; have hcz9_3 : w8.cell? ⟨gb216, 3, none⟩ = some (.int .i64 a0_3) := (blk_cell BK216.out 3).trans rfl; have hfz9_0 := blk_frozen BK216.out 0; have hfz9_1 := blk_frozen BK216.out 1; have hfz9_2 := blk_frozen BK216.out 2; have hfz9_3 := blk_frozen BK216.out 3))
      go_ret
      exact ⟨by first | rfl | (simp [errW_none, errW_some] <;> rfl) | (simp [*, errW_none, errW_some] <;> rfl), by repeat (first | (with_reducible first | exact HB.out | apply below_alloc | apply pw_below_drewN | apply below_drew1 | refine below_set ?_ GE216.out) | exact HB.out)⟩
/-! ### laws_zzFits3: function 22 -/
def laws_zzFits3.l0 : Nat → List (S42) → Int → Int → Option (Bool)
  | 0, _, _, _ => none
  | k + 1, x8, x9, x10 => if x10 < x9 then (if 0 ≤ x10 then (if x10 < (x8.length : Int) then ((laws_zzFits4.f ((rd_T42 x8 x10).f0) ((rd_T42 x8 x10).f1) ((rd_T42 x8 x10).f2) ((rd_T42 x8 x10).f3)).bind fun t219 => (if t219 = true then (laws_zzFits3.l0 k x8 x9 (wrap64 (x10 + 1))) else (some false))) else (none)) else (none)) else (some true)
def laws_zzFits3.f (k : Nat) (l0 : List (S42)) : Option (Bool) := if (l0.length : Int) > 2147483647 then (some false) else (laws_zzFits3.l0 k l0 (l0.length : Int) 0)
theorem laws_zzFits3.mono_l : ∀ k, (∀ y0 y1 y2, LeO (laws_zzFits3.l0 k y0 y1 y2) (laws_zzFits3.l0 (k + 1) y0 y1 y2))
  | 0 => fun _ _ _ r h => by simp [laws_zzFits3.l0] at h
  | k + 1 => by
    have ih0 := laws_zzFits3.mono_l k
    · intro y0 y1 y2
      unfold laws_zzFits3.l0
      repeat' first
      | (with_reducible exact ih0 _ _ _)
      | (with_reducible exact LeO.refl _)
      | (with_reducible exact LeO.none _)
      | (with_reducible refine LeO.ite ?_ ?_)
      | (with_reducible refine LeO.bind ?_ (fun _ => ?_))
      | exact ih0 _ _ _
      | exact LeO.none _
      | refine LeO.ite ?_ ?_
      | refine LeO.bind ?_ (fun _ => ?_)
theorem laws_zzFits3.mono : ∀ a0 k, LeO (laws_zzFits3.f k a0) (laws_zzFits3.f (k + 1) a0) := by
  intro a0 k
  have ih0 := laws_zzFits3.mono_l k
  unfold laws_zzFits3.f
  repeat' first
      | (with_reducible exact ih0 _ _ _)
      | (with_reducible exact LeO.refl _)
      | (with_reducible exact LeO.none _)
      | (with_reducible refine LeO.ite ?_ ?_)
      | (with_reducible refine LeO.bind ?_ (fun _ => ?_))
      | exact ih0 _ _ _
      | exact LeO.none _
      | refine LeO.ite ?_ ?_
      | refine LeO.bind ?_ (fun _ => ?_)
set_option maxHeartbeats 8000000 in
set_option maxRecDepth 100000 in
theorem laws_zzFits3.calls (k : Nat) (A0 : Option Addr) (c0 : Nat) (l0 : List (S42)) (r : Bool) (w : World) (hr0 : Kd.C k42 w A0 l0.length l0) (hc0 : l0.length ≤ c0) (h : laws_zzFits3.f k l0 = some r) :
    Calls Tryz.prog 22 #[.slice A0 l0.length c0] w fun e w' => e = .returned (.bool r) ∧ Below w.heap.size w w' := by
  have hu42 := Tryz.underlying42
  have HR0 := Aside0.mk hr0
  have HC0 := Aside0.mk hc0
  clear hr0 hc0
  have HB := Aside0.mk (Below.refl w.heap.size w)
  have H : (if (l0.length : Int) > 2147483647 then (some false) else (laws_zzFits3.l0 k l0 (l0.length : Int) 0)) = some r := h
  clear h
  by_cases c2 : (l0.length : Int) > 2147483647
  · rw [if_pos c2] at H
    have c2b0 : decide (2147483647 < (l0.length : Int)) = true := decide_eq_true c2
    have c2b1 : decide (2147483647 < l0.length) = true := decide_eq_true (by omega)
    clear c2
    obtain rfl := Option.some.inj H
    go_enter Tryz.func22, Tryz.ntmps22
    go_wp2
    go_ret
    exact ⟨by first | rfl | (simp [errW_none, errW_some] <;> rfl) | (simp [*, errW_none, errW_some] <;> rfl), by repeat (first | (with_reducible first | exact HB.out | apply below_alloc | apply pw_below_drewN | apply below_drew1) | exact HB.out)⟩
  · rw [if_neg c2] at H
    have c2b0 : decide (2147483647 < (l0.length : Int)) = false := decide_eq_false c2
    have c2b1 : decide (2147483647 < l0.length) = false := decide_eq_false (by omega)
    clear c2
    have H' := Aside0.mk H
    clear H
    go_enter Tryz.func22, Tryz.ntmps22
    go_wp2
    go_loopg [10] k (fun kq v10 w' => ∃ (x10_1 : Int), v10 = .int .i64 x10_1 ∧ Aside0 (laws_zzFits3.l0 kq l0 (l0.length : Int) x10_1 = some r) ∧ Aside0 (kq ≤ k) ∧ Aside0 (Below w.heap.size w w'))
    case atStart => exact ⟨(0), (by first | rfl | (simp; done) | (simp [*]; done)), H', ⟨Nat.le_refl _⟩, ⟨by repeat (first | (with_reducible first | exact HB.out | apply below_alloc | apply pw_below_drewN | apply below_drew1) | exact HB.out)⟩⟩
    case round =>
      clear H'
      try clear c2
      try clear c2b0
      try clear c2b1
      try clear p2
      obtain ⟨x10_1, rfl, HA, HK1, HB⟩ := hrel
      cases gk with
      | zero => exact absurd HA.out (by simp [laws_zzFits3.l0])
      | succ k1 =>
        have H := HA.out
        clear HA
        simp only [laws_zzFits3.l0] at H
        by_cases c3 : x10_1 < (l0.length : Int)
        · rw [if_pos c3] at H
          have c3b0 : decide (x10_1 < (l0.length : Int)) = true := decide_eq_true c3
          clear c3
          by_cases c4 : 0 ≤ x10_1
          · rw [if_pos c4] at H
            have c4b0 : decide (0 ≤ x10_1) = true := decide_eq_true c4
            clear c4
            by_cases c5 : x10_1 < (l0.length : Int)
            · rw [if_pos c5] at H
              have c5b0 : decide (x10_1 < (l0.length : Int)) = true := decide_eq_true c5
              clear c5
              replace H := Option.bind_eq_some_iff.mp H
              obtain ⟨t219, A60, H⟩ := H
              replace H : (if t219 = true then (laws_zzFits3.l0 k1 l0 (l0.length : Int) (wrap64 (x10_1 + 1))) else (some false)) = some r := H
              have A6 := Aside0.mk A60
              clear A60
              by_cases c7 : t219 = true
              · subst c7
                have H1 : (laws_zzFits3.l0 k1 l0 (l0.length : Int) (wrap64 (x10_1 + 1))) = some r := by rw [if_pos rfl] at H; exact H
                clear H
                have H := H1
                clear H1
                have H' := Aside0.mk H
                clear H
                have p217 : 0 ≤ (x10_1 : Int) := of_decide_eq_true (by first | (with_reducible assumption) | assumption)
                have q217 : x10_1 < (l0.length : Int) := of_decide_eq_true (by first | (with_reducible assumption) | assumption)
                obtain ⟨ad217, A217_2, c217_2, e217, hx217_0, hx217_1, hx217_2, hx217_3, hl217_2, hi217_2⟩ := at_T42 HR0.out x10_1 p217 q217
                cases e217
                replace hx217_0 := (HB.out.cell (World.block_lt_of_cell? w _ hx217_0)).trans hx217_0
                replace hx217_1 := (HB.out.cell (World.block_lt_of_cell? w _ hx217_1)).trans hx217_1
                replace hx217_2 := (HB.out.cell (World.block_lt_of_cell? w _ hx217_2)).trans hx217_2
                replace hx217_3 := (HB.out.cell (World.block_lt_of_cell? w _ hx217_3)).trans hx217_3
                have HR217_2 := Aside0.mk hi217_2
                have HC217_2 := Aside0.mk hl217_2
                clear hi217_2 hl217_2
                replace p217 := eq_true p217
                replace q217 := eq_true q217
                go_wp2_with (first | ((with_reducible refine gate_dst (N := 4) rfl ?_); refine box_event ?hg (N := 4) ?hd (cs := #[.bool false, .string (⟨#[]⟩ : ByteArray), .slice none 0 0, .int .i64 0]) (t := 42) ?hr ?_; (case hd => rfl); (case hg => rfl); (case hr => first | (go_simp; done) | (go_simp; rfl)); intro gb218 hg w8 hbox hb; have n0_ := Aside0.mk (below_step (Xb HB.out) hb); have n1_ := Aside0.mk (hbox); have n2_ := Aside0.mk ((by rw [hg]; exact (below_size (Xb HB.out)) : w.heap.size ≤ gb218)); have n3_ := Aside0.mk ((by rw [hg]; exact (below_size (Xb HB.out)) : w.heap.size ≤ gb218)); clear HB; have HB := n0_; have BK218 := n1_; have GW218 := n2_; have GE218 := n3_; clear n0_ n1_ n2_ n3_; clear hb hbox hg; have hcz9_0 : w8.cell? ⟨gb218, 0, none⟩ = some (.bool false) := (blk_cell BK218.out 0).trans rfl; have hcz9_1 : w8.cell? ⟨gb218, 1, none⟩ = some (.string (⟨#[]⟩ : ByteArray)) := (blk_cell BK218.out 1).trans rfl; have hcz9_2 : w8.cell? ⟨gb218, 2, none⟩ = some (.slice none 0 0) := (blk_cell BK218.out 2).trans rfl; have hcz9_3 : w8.cell? ⟨gb218, 3, none⟩ = some (.int .i64 0) := (blk_cell BK218.out 3).trans rfl; have hfz9_0 := blk_frozen BK218.out 0; have hfz9_1 := blk_frozen BK218.out 1; have hfz9_2 := blk_frozen BK218.out 2; have hfz9_3 := blk_frozen BK218.out 3) | ((with_reducible refine gate_callee (f := 29) rfl ?_); refine goesL_ (some 15) rfl rfl Tryz.func29 (by kernel_rfl) rfl #[.agg #[.bool ((rd_T42 l0 x10_1).f0), .string ((rd_T42 l0 x10_1).f1), .slice A217_2 ((rd_T42 l0 x10_1).f2).length c217_2, .int .i64 ((rd_T42 l0 x10_1).f3)]] rfl (by (try simp only [List.map_toArray, List.map_cons, List.map_nil]); first | done | rfl | (simp only [List.length_drop, List.length_take]; rfl)) ?_; (with_reducible refine (laws_zzFits4.calls ((rd_T42 l0 x10_1).f0) ((rd_T42 l0 x10_1).f1) _ _ ((rd_T42 l0 x10_1).f2) ((rd_T42 l0 x10_1).f3) true _ ?side1 ?side2 A6.out).mono ?_); (case side1 => exact Kd.C_below HR217_2.out (by repeat (first | (with_reducible first | exact HB.out | apply below_alloc | apply pw_below_drewN | apply below_drew1 | refine below_set ?_ GE218.out) | exact HB.out))); (case side2 => exact HC217_2.out); rintro e w10 ⟨rfl, hb⟩; refine ⟨_, rfl, ?_⟩; have n0_ := Aside0.mk (blk_below (g := gb218) (o := .cells #[.bool ((rd_T42 l0 x10_1).f0), .string ((rd_T42 l0 x10_1).f1), .slice A217_2 ((rd_T42 l0 x10_1).f2).length c217_2, .int .i64 ((rd_T42 l0 x10_1).f3)] 42 (0, 0)) (by (with_reducible repeat (first | refine blk_drewN ?_ _ | refine blk_drew ?_ | refine blk_alloc ?_ _)); refine blk_put (cs := #[.bool ((rd_T42 l0 x10_1).f0), .string ((rd_T42 l0 x10_1).f1), .slice A217_2 ((rd_T42 l0 x10_1).f2).length c217_2, .int .i64 0]) ?_ 3 _ rfl; (with_reducible repeat (first | refine blk_drewN ?_ _ | refine blk_drew ?_ | refine blk_alloc ?_ _)); refine blk_put (cs := #[.bool ((rd_T42 l0 x10_1).f0), .string ((rd_T42 l0 x10_1).f1), .slice none 0 0, .int .i64 0]) ?_ 2 _ rfl; (with_reducible repeat (first | refine blk_drewN ?_ _ | refine blk_drew ?_ | refine blk_alloc ?_ _)); refine blk_put (cs := #[.bool ((rd_T42 l0 x10_1).f0), .string (⟨#[]⟩ : ByteArray), .slice none 0 0, .int .i64 0]) ?_ 1 _ rfl; (with_reducible repeat (first | refine blk_drewN ?_ _ | refine blk_drew ?_ | refine blk_alloc ?_ _)); refine blk_put (cs := #[.bool false, .string (⟨#[]⟩ : ByteArray), .slice none 0 0, .int .i64 0]) ?_ 0 _ rfl; (with_reducible repeat (first | refine blk_drewN ?_ _ | refine blk_drew ?_ | refine blk_alloc ?_ _)); exact BK218.out) hb); have n1_ := Aside0.mk (below_step (by repeat (first | (with_reducible first | exact HB.out | apply below_alloc | apply pw_below_drewN | apply below_drew1 | refine below_set ?_ GE218.out) | exact HB.out)) hb); clear BK218; clear HB; have BK218 := n0_; have HB := n1_; clear n0_ n1_; (try clear hb); (try clear hb2); (try clear hk); (try clear hi)))
                go_roundg k1
                case measure => have := HK1.out; omega
                case rel => exact ⟨(wrap64 (x10_1 + 1)), (by first | rfl | (simp; done) | (simp [*]; done)), H', ⟨by have := HK1.out; omega⟩, ⟨by repeat (first | (with_reducible first | exact HB.out | apply below_alloc | apply pw_below_drewN | apply below_drew1 | refine below_set ?_ GE218.out) | exact HB.out)⟩⟩
              · replace c7 := Bool.eq_false_iff.mpr c7
                subst c7
                have H1 : (some false) = some r := by rw [if_neg (show ¬ (false = true) by decide)] at H; exact H
                clear H
                have H := H1
                clear H1
                obtain rfl := Option.some.inj H
                have p217 : 0 ≤ (x10_1 : Int) := of_decide_eq_true (by first | (with_reducible assumption) | assumption)
                have q217 : x10_1 < (l0.length : Int) := of_decide_eq_true (by first | (with_reducible assumption) | assumption)
                obtain ⟨ad217, A217_2, c217_2, e217, hx217_0, hx217_1, hx217_2, hx217_3, hl217_2, hi217_2⟩ := at_T42 HR0.out x10_1 p217 q217
                cases e217
                replace hx217_0 := (HB.out.cell (World.block_lt_of_cell? w _ hx217_0)).trans hx217_0
                replace hx217_1 := (HB.out.cell (World.block_lt_of_cell? w _ hx217_1)).trans hx217_1
                replace hx217_2 := (HB.out.cell (World.block_lt_of_cell? w _ hx217_2)).trans hx217_2
                replace hx217_3 := (HB.out.cell (World.block_lt_of_cell? w _ hx217_3)).trans hx217_3
                have HR217_2 := Aside0.mk hi217_2
                have HC217_2 := Aside0.mk hl217_2
                clear hi217_2 hl217_2
                replace p217 := eq_true p217
                replace q217 := eq_true q217
                go_wp2_with (first | ((with_reducible refine gate_dst (N := 4) rfl ?_); refine box_event ?hg (N := 4) ?hd (cs := #[.bool false, .string (⟨#[]⟩ : ByteArray), .slice none 0 0, .int .i64 0]) (t := 42) ?hr ?_; (case hd => rfl); (case hg => rfl); (case hr => first | (go_simp; done) | (go_simp; rfl)); intro gb218 hg w11 hbox hb; have n0_ := Aside0.mk (below_step (Xb HB.out) hb); have n1_ := Aside0.mk (hbox); have n2_ := Aside0.mk ((by rw [hg]; exact (below_size (Xb HB.out)) : w.heap.size ≤ gb218)); have n3_ := Aside0.mk ((by rw [hg]; exact (below_size (Xb HB.out)) : w.heap.size ≤ gb218)); clear HB; have HB := n0_; have BK218 := n1_; have GW218 := n2_; have GE218 := n3_; clear n0_ n1_ n2_ n3_; clear hb hbox hg; have hcz12_0 : w11.cell? ⟨gb218, 0, none⟩ = some (.bool false) := (blk_cell BK218.out 0).trans rfl; have hcz12_1 : w11.cell? ⟨gb218, 1, none⟩ = some (.string (⟨#[]⟩ : ByteArray)) := (blk_cell BK218.out 1).trans rfl; have hcz12_2 : w11.cell? ⟨gb218, 2, none⟩ = some (.slice none 0 0) := (blk_cell BK218.out 2).trans rfl; have hcz12_3 : w11.cell? ⟨gb218, 3, none⟩ = some (.int .i64 0) := (blk_cell BK218.out 3).trans rfl; have hfz12_0 := blk_frozen BK218.out 0; have hfz12_1 := blk_frozen BK218.out 1; have hfz12_2 := blk_frozen BK218.out 2; have hfz12_3 := blk_frozen BK218.out 3) | ((with_reducible refine gate_callee (f := 29) rfl ?_); refine goesL_ (some 15) rfl rfl Tryz.func29 (by kernel_rfl) rfl #[.agg #[.bool ((rd_T42 l0 x10_1).f0), .string ((rd_T42 l0 x10_1).f1), .slice A217_2 ((rd_T42 l0 x10_1).f2).length c217_2, .int .i64 ((rd_T42 l0 x10_1).f3)]] rfl (by (try simp only [List.map_toArray, List.map_cons, List.map_nil]); first | done | rfl | (simp only [List.length_drop, List.length_take]; rfl)) ?_; (with_reducible refine (laws_zzFits4.calls ((rd_T42 l0 x10_1).f0) ((rd_T42 l0 x10_1).f1) _ _ ((rd_T42 l0 x10_1).f2) ((rd_T42 l0 x10_1).f3) false _ ?side1 ?side2 A6.out).mono ?_); (case side1 => exact Kd.C_below HR217_2.out (by repeat (first | (with_reducible first | exact HB.out | apply below_alloc | apply pw_below_drewN | apply below_drew1 | refine below_set ?_ GE218.out) | exact HB.out))); (case side2 => exact HC217_2.out); rintro e w13 ⟨rfl, hb⟩; refine ⟨_, rfl, ?_⟩; have n0_ := Aside0.mk (blk_below (g := gb218) (o := .cells #[.bool ((rd_T42 l0 x10_1).f0), .string ((rd_T42 l0 x10_1).f1), .slice A217_2 ((rd_T42 l0 x10_1).f2).length c217_2, .int .i64 ((rd_T42 l0 x10_1).f3)] 42 (0, 0)) (by (with_reducible repeat (first | refine blk_drewN ?_ _ | refine blk_drew ?_ | refine blk_alloc ?_ _)); refine blk_put (cs := #[.bool ((rd_T42 l0 x10_1).f0), .string ((rd_T42 l0 x10_1).f1), .slice A217_2 ((rd_T42 l0 x10_1).f2).length c217_2, .int .i64 0]) ?_ 3 _ rfl; (with_reducible repeat (first | refine blk_drewN ?_ _ | refine blk_drew ?_ | refine blk_alloc ?_ _)); refine blk_put (cs := #[.bool ((rd_T42 l0 x10_1).f0), .string ((rd_T42 l0 x10_1).f1), .slice none 0 0, .int .i64 0]) ?_ 2 _ rfl; (with_reducible repeat (first | refine blk_drewN ?_ _ | refine blk_drew ?_ | refine blk_alloc ?_ _)); refine blk_put (cs := #[.bool ((rd_T42 l0 x10_1).f0), .string (⟨#[]⟩ : ByteArray), .slice none 0 0, .int .i64 0]) ?_ 1 _ rfl; (with_reducible repeat (first | refine blk_drewN ?_ _ | refine blk_drew ?_ | refine blk_alloc ?_ _)); refine blk_put (cs := #[.bool false, .string (⟨#[]⟩ : ByteArray), .slice none 0 0, .int .i64 0]) ?_ 0 _ rfl; (with_reducible repeat (first | refine blk_drewN ?_ _ | refine blk_drew ?_ | refine blk_alloc ?_ _)); exact BK218.out) hb); have n1_ := Aside0.mk (below_step (by repeat (first | (with_reducible first | exact HB.out | apply below_alloc | apply pw_below_drewN | apply below_drew1 | refine below_set ?_ GE218.out) | exact HB.out)) hb); clear BK218; clear HB; have BK218 := n0_; have HB := n1_; clear n0_ n1_; (try clear hb); (try clear hb2); (try clear hk); (try clear hi)))
                go_ret
                exact ⟨by first | rfl | (simp [errW_none, errW_some] <;> rfl) | (simp [*, errW_none, errW_some] <;> rfl), by repeat (first | (with_reducible first | exact HB.out | apply below_alloc | apply pw_below_drewN | apply below_drew1 | refine below_set ?_ GE218.out) | exact HB.out)⟩
            · rw [if_neg c5] at H
              exact absurd H (by simp)
          · rw [if_neg c4] at H
            exact absurd H (by simp)
        · rw [if_neg c3] at H
          have c3b0 : decide (x10_1 < (l0.length : Int)) = false := decide_eq_false c3
          clear c3
          obtain rfl := Option.some.inj H
          go_wp2
          go_ret
          exact ⟨by first | rfl | (simp [errW_none, errW_some] <;> rfl) | (simp [*, errW_none, errW_some] <;> rfl), by repeat (first | (with_reducible first | exact HB.out | apply below_alloc | apply pw_below_drewN | apply below_drew1) | exact HB.out)⟩
/-! ### spec_Within: function 25 -/
def spec_Within.f (a0 : Int) (a1 : Int) (a2 : Int) : Option (Bool) := if a0 ≥ a1 then (some (decide (a0 ≤ a2))) else (some false)
set_option maxHeartbeats 8000000 in
set_option maxRecDepth 100000 in
theorem spec_Within.calls (a0 : Int) (a1 : Int) (a2 : Int) (r : Bool) (w : World) (h : spec_Within.f a0 a1 a2 = some r) :
    Calls Tryz.prog 25 #[.int .i64 a0, .int .i64 a1, .int .i64 a2] w fun e w' => e = .returned (.bool r) ∧ Drawn0 w w' := by
  have H : (if a0 ≥ a1 then (some (decide (a0 ≤ a2))) else (some false)) = some r := h
  clear h
  by_cases c4 : a0 ≥ a1
  · rw [if_pos c4] at H
    have c4b0 : decide (a1 ≤ a0) = true := decide_eq_true c4
    clear c4
    obtain rfl := Option.some.inj H
    go_enter Tryz.func25, Tryz.ntmps25
    go_wp2
    go_ret
    exact ⟨by first | rfl | (simp; done) | (simp [*]; done), by repeat (first | exact Drawn0.refl _ | apply Drawn0.step)⟩
  · rw [if_neg c4] at H
    have c4b0 : decide (a1 ≤ a0) = false := decide_eq_false c4
    clear c4
    obtain rfl := Option.some.inj H
    go_enter Tryz.func25, Tryz.ntmps25
    go_wp2
    go_ret
    exact ⟨by first | rfl | (simp; done) | (simp [*]; done), by repeat (first | exact Drawn0.refl _ | apply Drawn0.step)⟩
/-! ### spec_MatchesOk: function 24 -/
def spec_MatchesOk.l0 : Nat → List (S42) → Int → Int → Option (Bool)
  | 0, _, _, _ => none
  | k + 1, x5, x6, x7 => if x7 < x6 then (if 0 ≤ x7 then (if x7 < (x5.length : Int) then (if (((rd_T42 x5 x7).f1).size : Int) > 2000 then (some false) else ((spec_SpansOk.f k ((rd_T42 x5 x7).f2)).bind fun t223 => (if t223 = true then ((spec_Within.f ((rd_T42 x5 x7).f3) 0 1099511627776).bind fun t224 => (if t224 = true then (spec_MatchesOk.l0 k x5 x6 (wrap64 (x7 + 1))) else (some false))) else (some false)))) else (none)) else (none)) else (some true)
def spec_MatchesOk.f (k : Nat) (l0 : List (S42)) : Option (Bool) := spec_MatchesOk.l0 k l0 (l0.length : Int) 0
theorem spec_MatchesOk.mono_l : ∀ k, (∀ y0 y1 y2, LeO (spec_MatchesOk.l0 k y0 y1 y2) (spec_MatchesOk.l0 (k + 1) y0 y1 y2))
  | 0 => fun _ _ _ r h => by simp [spec_MatchesOk.l0] at h
  | k + 1 => by
    have ih0 := spec_MatchesOk.mono_l k
    · intro y0 y1 y2
      unfold spec_MatchesOk.l0
      repeat' first
      | (with_reducible exact ih0 _ _ _)
      | (with_reducible exact spec_SpansOk.mono _ _)
      | (with_reducible exact LeO.refl _)
      | (with_reducible exact LeO.none _)
      | (with_reducible refine LeO.ite ?_ ?_)
      | (with_reducible refine LeO.bind ?_ (fun _ => ?_))
      | exact ih0 _ _ _
      | exact spec_SpansOk.mono _ _
      | exact LeO.none _
      | refine LeO.ite ?_ ?_
      | refine LeO.bind ?_ (fun _ => ?_)
theorem spec_MatchesOk.mono : ∀ a0 k, LeO (spec_MatchesOk.f k a0) (spec_MatchesOk.f (k + 1) a0) := by
  intro a0 k
  have ih0 := spec_MatchesOk.mono_l k
  unfold spec_MatchesOk.f
  repeat' first
      | (with_reducible exact ih0 _ _ _)
      | (with_reducible exact spec_SpansOk.mono _ _)
      | (with_reducible exact LeO.refl _)
      | (with_reducible exact LeO.none _)
      | (with_reducible refine LeO.ite ?_ ?_)
      | (with_reducible refine LeO.bind ?_ (fun _ => ?_))
      | exact ih0 _ _ _
      | exact spec_SpansOk.mono _ _
      | exact LeO.none _
      | refine LeO.ite ?_ ?_
      | refine LeO.bind ?_ (fun _ => ?_)
set_option maxHeartbeats 8000000 in
set_option maxRecDepth 100000 in
theorem spec_MatchesOk.calls (k : Nat) (A0 : Option Addr) (c0 : Nat) (l0 : List (S42)) (r : Bool) (w : World) (hr0 : Kd.C k42 w A0 l0.length l0) (hc0 : l0.length ≤ c0) (h : spec_MatchesOk.f k l0 = some r) :
    Calls Tryz.prog 24 #[.slice A0 l0.length c0] w fun e w' => e = .returned (.bool r) ∧ Below w.heap.size w w' := by
  have hu42 := Tryz.underlying42
  have HR0 := Aside0.mk hr0
  have HC0 := Aside0.mk hc0
  clear hr0 hc0
  have HB := Aside0.mk (Below.refl w.heap.size w)
  have H : (spec_MatchesOk.l0 k l0 (l0.length : Int) 0) = some r := h
  clear h
  have H' := Aside0.mk H
  clear H
  go_enter Tryz.func24, Tryz.ntmps24
  go_wp2
  go_loopg [7] k (fun kq v7 w' => ∃ (x7_1 : Int), v7 = .int .i64 x7_1 ∧ Aside0 (spec_MatchesOk.l0 kq l0 (l0.length : Int) x7_1 = some r) ∧ Aside0 (kq ≤ k) ∧ Aside0 (Below w.heap.size w w'))
  case atStart => exact ⟨(0), (by first | rfl | (simp; done) | (simp [*]; done)), H', ⟨Nat.le_refl _⟩, ⟨by repeat (first | (with_reducible first | exact HB.out | apply below_alloc | apply pw_below_drewN | apply below_drew1) | exact HB.out)⟩⟩
  case round =>
    clear H'
    obtain ⟨x7_1, rfl, HA, HK1, HB⟩ := hrel
    cases gk with
    | zero => exact absurd HA.out (by simp [spec_MatchesOk.l0])
    | succ k1 =>
      have H := HA.out
      clear HA
      simp only [spec_MatchesOk.l0] at H
      by_cases c2 : x7_1 < (l0.length : Int)
      · rw [if_pos c2] at H
        have c2b0 : decide (x7_1 < (l0.length : Int)) = true := decide_eq_true c2
        clear c2
        by_cases c3 : 0 ≤ x7_1
        · rw [if_pos c3] at H
          have c3b0 : decide (0 ≤ x7_1) = true := decide_eq_true c3
          clear c3
          by_cases c4 : x7_1 < (l0.length : Int)
          · rw [if_pos c4] at H
            have c4b0 : decide (x7_1 < (l0.length : Int)) = true := decide_eq_true c4
            clear c4
            by_cases c5 : (((rd_T42 l0 x7_1).f1).size : Int) > 2000
            · rw [if_pos c5] at H
              have c5b0 : decide (2000 < (((rd_T42 l0 x7_1).f1).size : Int)) = true := decide_eq_true c5
              have c5b1 : decide (2000 < ((rd_T42 l0 x7_1).f1).size) = true := decide_eq_true (by omega)
              clear c5
              obtain rfl := Option.some.inj H
              have p221 : 0 ≤ (x7_1 : Int) := of_decide_eq_true (by first | (with_reducible assumption) | assumption)
              have q221 : x7_1 < (l0.length : Int) := of_decide_eq_true (by first | (with_reducible assumption) | assumption)
              obtain ⟨ad221, A221_2, c221_2, e221, hx221_0, hx221_1, hx221_2, hx221_3, hl221_2, hi221_2⟩ := at_T42 HR0.out x7_1 p221 q221
              cases e221
              replace hx221_0 := (HB.out.cell (World.block_lt_of_cell? w _ hx221_0)).trans hx221_0
              replace hx221_1 := (HB.out.cell (World.block_lt_of_cell? w _ hx221_1)).trans hx221_1
              replace hx221_2 := (HB.out.cell (World.block_lt_of_cell? w _ hx221_2)).trans hx221_2
              replace hx221_3 := (HB.out.cell (World.block_lt_of_cell? w _ hx221_3)).trans hx221_3
              have HR221_2 := Aside0.mk hi221_2
              have HC221_2 := Aside0.mk hl221_2
              clear hi221_2 hl221_2
              replace p221 := eq_true p221
              replace q221 := eq_true q221
              go_wp2_with (first | ((with_reducible refine gate_dst (N := 4) rfl ?_); refine box_event ?hg (N := 4) ?hd (cs := #[.bool false, .string (⟨#[]⟩ : ByteArray), .slice none 0 0, .int .i64 0]) (t := 42) ?hr ?_; (case hd => rfl); (case hg => rfl); (case hr => first | (go_simp; done) | (go_simp; rfl)); intro gb222 hg w6 hbox hb; have n0_ := Aside0.mk (below_step (Xb HB.out) hb); have n1_ := Aside0.mk (hbox); have n2_ := Aside0.mk ((by rw [hg]; exact (below_size (Xb HB.out)) : w.heap.size ≤ gb222)); have n3_ := Aside0.mk ((by rw [hg]; exact (below_size (Xb HB.out)) : w.heap.size ≤ gb222)); clear HB; have HB := n0_; have BK222 := n1_; have GW222 := n2_; have GE222 := n3_; clear n0_ n1_ n2_ n3_; clear hb hbox hg; have hcz7_0 : w6.cell? ⟨gb222, 0, none⟩ = some (.bool false) := (blk_cell BK222.out 0).trans rfl; have hcz7_1 : w6.cell? ⟨gb222, 1, none⟩ = some (.string (⟨#[]⟩ : ByteArray)) := (blk_cell BK222.out 1).trans rfl; have hcz7_2 : w6.cell? ⟨gb222, 2, none⟩ = some (.slice none 0 0) := (blk_cell BK222.out 2).trans rfl; have hcz7_3 : w6.cell? ⟨gb222, 3, none⟩ = some (.int .i64 0) := (blk_cell BK222.out 3).trans rfl; have hfz7_0 := blk_frozen BK222.out 0; have hfz7_1 := blk_frozen BK222.out 1; have hfz7_2 := blk_frozen BK222.out 2; have hfz7_3 := blk_frozen BK222.out 3))
              go_ret
              exact ⟨by first | rfl | (simp [errW_none, errW_some] <;> rfl) | (simp [*, errW_none, errW_some] <;> rfl), by repeat (first | (with_reducible first | exact HB.out | apply below_alloc | apply pw_below_drewN | apply below_drew1 | refine below_set ?_ GE222.out) | exact HB.out)⟩
            · rw [if_neg c5] at H
              have c5b0 : decide (2000 < (((rd_T42 l0 x7_1).f1).size : Int)) = false := decide_eq_false c5
              have c5b1 : decide (2000 < ((rd_T42 l0 x7_1).f1).size) = false := decide_eq_false (by omega)
              clear c5
              replace H := Option.bind_eq_some_iff.mp H
              obtain ⟨t223, A80, H⟩ := H
              replace H : (if t223 = true then ((spec_Within.f ((rd_T42 l0 x7_1).f3) 0 1099511627776).bind fun t224 => (if t224 = true then (spec_MatchesOk.l0 k1 l0 (l0.length : Int) (wrap64 (x7_1 + 1))) else (some false))) else (some false)) = some r := H
              have A8 := Aside0.mk A80
              clear A80
              by_cases c9 : t223 = true
              · subst c9
                have H1 : ((spec_Within.f ((rd_T42 l0 x7_1).f3) 0 1099511627776).bind fun t224 => (if t224 = true then (spec_MatchesOk.l0 k1 l0 (l0.length : Int) (wrap64 (x7_1 + 1))) else (some false))) = some r := by rw [if_pos rfl] at H; exact H
                clear H
                have H := H1
                clear H1
                replace H := Option.bind_eq_some_iff.mp H
                obtain ⟨t224, A100, H⟩ := H
                replace H : (if t224 = true then (spec_MatchesOk.l0 k1 l0 (l0.length : Int) (wrap64 (x7_1 + 1))) else (some false)) = some r := H
                have A10 := Aside0.mk A100
                clear A100
                by_cases c11 : t224 = true
                · subst c11
                  have H1 : (spec_MatchesOk.l0 k1 l0 (l0.length : Int) (wrap64 (x7_1 + 1))) = some r := by rw [if_pos rfl] at H; exact H
                  clear H
                  have H := H1
                  clear H1
                  have H' := Aside0.mk H
                  clear H
                  have p221 : 0 ≤ (x7_1 : Int) := of_decide_eq_true (by first | (with_reducible assumption) | assumption)
                  have q221 : x7_1 < (l0.length : Int) := of_decide_eq_true (by first | (with_reducible assumption) | assumption)
                  obtain ⟨ad221, A221_2, c221_2, e221, hx221_0, hx221_1, hx221_2, hx221_3, hl221_2, hi221_2⟩ := at_T42 HR0.out x7_1 p221 q221
                  cases e221
                  replace hx221_0 := (HB.out.cell (World.block_lt_of_cell? w _ hx221_0)).trans hx221_0
                  replace hx221_1 := (HB.out.cell (World.block_lt_of_cell? w _ hx221_1)).trans hx221_1
                  replace hx221_2 := (HB.out.cell (World.block_lt_of_cell? w _ hx221_2)).trans hx221_2
                  replace hx221_3 := (HB.out.cell (World.block_lt_of_cell? w _ hx221_3)).trans hx221_3
                  have HR221_2 := Aside0.mk hi221_2
                  have HC221_2 := Aside0.mk hl221_2
                  clear hi221_2 hl221_2
                  replace p221 := eq_true p221
                  replace q221 := eq_true q221
                  go_wp2_with (first | ((with_reducible refine gate_dst (N := 4) rfl ?_); refine box_event ?hg (N := 4) ?hd (cs := #[.bool false, .string (⟨#[]⟩ : ByteArray), .slice none 0 0, .int .i64 0]) (t := 42) ?hr ?_; (case hd => rfl); (case hg => rfl); (case hr => first | (go_simp; done) | (go_simp; rfl)); intro gb222 hg w12 hbox hb; have n0_ := Aside0.mk (below_step (Xb HB.out) hb); have n1_ := Aside0.mk (hbox); have n2_ := Aside0.mk ((by rw [hg]; exact (below_size (Xb HB.out)) : w.heap.size ≤ gb222)); have n3_ := Aside0.mk ((by rw [hg]; exact (below_size (Xb HB.out)) : w.heap.size ≤ gb222)); clear HB; have HB := n0_; have BK222 := n1_; have GW222 := n2_; have GE222 := n3_; clear n0_ n1_ n2_ n3_; clear hb hbox hg; have hcz13_0 : w12.cell? ⟨gb222, 0, none⟩ = some (.bool false) := (blk_cell BK222.out 0).trans rfl; have hcz13_1 : w12.cell? ⟨gb222, 1, none⟩ = some (.string (⟨#[]⟩ : ByteArray)) := (blk_cell BK222.out 1).trans rfl; have hcz13_2 : w12.cell? ⟨gb222, 2, none⟩ = some (.slice none 0 0) := (blk_cell BK222.out 2).trans rfl; have hcz13_3 : w12.cell? ⟨gb222, 3, none⟩ = some (.int .i64 0) := (blk_cell BK222.out 3).trans rfl; have hfz13_0 := blk_frozen BK222.out 0; have hfz13_1 := blk_frozen BK222.out 1; have hfz13_2 := blk_frozen BK222.out 2; have hfz13_3 := blk_frozen BK222.out 3) | (go_at_call 15; (with_reducible refine (spec_SpansOk.calls k1 _ _ ((rd_T42 l0 x7_1).f2) true _ ?side1 ?side2 A8.out).mono ?_); (case side1 => exact Kd.C_below HR221_2.out (by repeat (first | (with_reducible first | exact HB.out | apply below_alloc | apply pw_below_drewN | apply below_drew1 | refine below_set ?_ GE222.out) | exact HB.out))); (case side2 => exact HC221_2.out); rintro e w14 ⟨rfl, hb⟩; have n0_ := Aside0.mk (blk_below (g := gb222) (o := .cells #[.bool ((rd_T42 l0 x7_1).f0), .string ((rd_T42 l0 x7_1).f1), .slice A221_2 ((rd_T42 l0 x7_1).f2).length c221_2, .int .i64 ((rd_T42 l0 x7_1).f3)] 42 (0, 0)) (by (with_reducible repeat (first | refine blk_drewN ?_ _ | refine blk_drew ?_ | refine blk_alloc ?_ _)); refine blk_put (cs := #[.bool ((rd_T42 l0 x7_1).f0), .string ((rd_T42 l0 x7_1).f1), .slice A221_2 ((rd_T42 l0 x7_1).f2).length c221_2, .int .i64 0]) ?_ 3 _ rfl; (with_reducible repeat (first | refine blk_drewN ?_ _ | refine blk_drew ?_ | refine blk_alloc ?_ _)); refine blk_put (cs := #[.bool ((rd_T42 l0 x7_1).f0), .string ((rd_T42 l0 x7_1).f1), .slice none 0 0, .int .i64 0]) ?_ 2 _ rfl; (with_reducible repeat (first | refine blk_drewN ?_ _ | refine blk_drew ?_ | refine blk_alloc ?_ _)); refine blk_put (cs := #[.bool ((rd_T42 l0 x7_1).f0), .string (⟨#[]⟩ : ByteArray), .slice none 0 0, .int .i64 0]) ?_ 1 _ rfl; (with_reducible repeat (first | refine blk_drewN ?_ _ | refine blk_drew ?_ | refine blk_alloc ?_ _)); refine blk_put (cs := #[.bool false, .string (⟨#[]⟩ : ByteArray), .slice none 0 0, .int .i64 0]) ?_ 0 _ rfl; (with_reducible repeat (first | refine blk_drewN ?_ _ | refine blk_drew ?_ | refine blk_alloc ?_ _)); exact BK222.out) hb); have n1_ := Aside0.mk (below_step (by repeat (first | (with_reducible first | exact HB.out | apply below_alloc | apply pw_below_drewN | apply below_drew1 | refine below_set ?_ GE222.out) | exact HB.out)) hb); clear BK222; clear HB; have BK222 := n0_; have HB := n1_; clear n0_ n1_; (try clear hb); (try clear hb2); (try clear hk); (try clear hi); have hcz15_0 : w14.cell? ⟨gb222, 0, none⟩ = some (.bool ((rd_T42 l0 x7_1).f0)) := (blk_cell BK222.out 0).trans rfl; have hcz15_1 : w14.cell? ⟨gb222, 1, none⟩ = some (.string ((rd_T42 l0 x7_1).f1)) := (blk_cell BK222.out 1).trans rfl; have hcz15_2 : w14.cell? ⟨gb222, 2, none⟩ = some (.slice A221_2 ((rd_T42 l0 x7_1).f2).length c221_2) := (blk_cell BK222.out 2).trans rfl; have hcz15_3 : w14.cell? ⟨gb222, 3, none⟩ = some (.int .i64 ((rd_T42 l0 x7_1).f3)) := (blk_cell BK222.out 3).trans rfl; have hfz15_0 := blk_frozen BK222.out 0; have hfz15_1 := blk_frozen BK222.out 1; have hfz15_2 := blk_frozen BK222.out 2; have hfz15_3 := blk_frozen BK222.out 3) | (go_at_call 25; (with_reducible refine (spec_Within.calls ((rd_T42 l0 x7_1).f3) 0 1099511627776 true _ A10.out).mono ?_); rintro e w' ⟨rfl, ⟨nd, rfl⟩⟩))
                  go_roundg k1
                  case measure => have := HK1.out; omega
                  case rel => exact ⟨(wrap64 (x7_1 + 1)), (by first | rfl | (simp; done) | (simp [*]; done)), H', ⟨by have := HK1.out; omega⟩, ⟨by repeat (first | (with_reducible first | exact HB.out | apply below_alloc | apply pw_below_drewN | apply below_drew1 | refine below_set ?_ GE222.out) | exact HB.out)⟩⟩
                · replace c11 := Bool.eq_false_iff.mpr c11
                  subst c11
                  have H1 : (some false) = some r := by rw [if_neg (show ¬ (false = true) by decide)] at H; exact H
                  clear H
                  have H := H1
                  clear H1
                  obtain rfl := Option.some.inj H
                  have p221 : 0 ≤ (x7_1 : Int) := of_decide_eq_true (by first | (with_reducible assumption) | assumption)
                  have q221 : x7_1 < (l0.length : Int) := of_decide_eq_true (by first | (with_reducible assumption) | assumption)
                  obtain ⟨ad221, A221_2, c221_2, e221, hx221_0, hx221_1, hx221_2, hx221_3, hl221_2, hi221_2⟩ := at_T42 HR0.out x7_1 p221 q221
                  cases e221
                  replace hx221_0 := (HB.out.cell (World.block_lt_of_cell? w _ hx221_0)).trans hx221_0
                  replace hx221_1 := (HB.out.cell (World.block_lt_of_cell? w _ hx221_1)).trans hx221_1
                  replace hx221_2 := (HB.out.cell (World.block_lt_of_cell? w _ hx221_2)).trans hx221_2
                  replace hx221_3 := (HB.out.cell (World.block_lt_of_cell? w _ hx221_3)).trans hx221_3
                  have HR221_2 := Aside0.mk hi221_2
                  have HC221_2 := Aside0.mk hl221_2
                  clear hi221_2 hl221_2
                  replace p221 := eq_true p221
                  replace q221 := eq_true q221
                  go_wp2_with (first | ((with_reducible refine gate_dst (N := 4) rfl ?_); refine box_event ?hg (N := 4) ?hd (cs := #[.bool false, .string (⟨#[]⟩ : ByteArray), .slice none 0 0, .int .i64 0]) (t := 42) ?hr ?_; (case hd => rfl); (case hg => rfl); (case hr => first | (go_simp; done) | (go_simp; rfl)); intro gb222 hg w16 hbox hb; have n0_ := Aside0.mk (below_step (Xb HB.out) hb); have n1_ := Aside0.mk (hbox); have n2_ := Aside0.mk ((by rw [hg]; exact (below_size (Xb HB.out)) : w.heap.size ≤ gb222)); have n3_ := Aside0.mk ((by rw [hg]; exact (below_size (Xb HB.out)) : w.heap.size ≤ gb222)); clear HB; have HB := n0_; have BK222 := n1_; have GW222 := n2_; have GE222 := n3_; clear n0_ n1_ n2_ n3_; clear hb hbox hg; have hcz17_0 : w16.cell? ⟨gb222, 0, none⟩ = some (.bool false) := (blk_cell BK222.out 0).trans rfl; have hcz17_1 : w16.cell? ⟨gb222, 1, none⟩ = some (.string (⟨#[]⟩ : ByteArray)) := (blk_cell BK222.out 1).trans rfl; have hcz17_2 : w16.cell? ⟨gb222, 2, none⟩ = some (.slice none 0 0) := (blk_cell BK222.out 2).trans rfl; have hcz17_3 : w16.cell? ⟨gb222, 3, none⟩ = some (.int .i64 0) := (blk_cell BK222.out 3).trans rfl; have hfz17_0 := blk_frozen BK222.out 0; have hfz17_1 := blk_frozen BK222.out 1; have hfz17_2 := blk_frozen BK222.out 2; have hfz17_3 := blk_frozen BK222.out 3) | (go_at_call 15; (with_reducible refine (spec_SpansOk.calls k1 _ _ ((rd_T42 l0 x7_1).f2) true _ ?side1 ?side2 A8.out).mono ?_); (case side1 => exact Kd.C_below HR221_2.out (by repeat (first | (with_reducible first | exact HB.out | apply below_alloc | apply pw_below_drewN | apply below_drew1 | refine below_set ?_ GE222.out) | exact HB.out))); (case side2 => exact HC221_2.out); rintro e w18 ⟨rfl, hb⟩; have n0_ := Aside0.mk (blk_below (g := gb222) (o := .cells #[.bool ((rd_T42 l0 x7_1).f0), .string ((rd_T42 l0 x7_1).f1), .slice A221_2 ((rd_T42 l0 x7_1).f2).length c221_2, .int .i64 ((rd_T42 l0 x7_1).f3)] 42 (0, 0)) (by (with_reducible repeat (first | refine blk_drewN ?_ _ | refine blk_drew ?_ | refine blk_alloc ?_ _)); refine blk_put (cs := #[.bool ((rd_T42 l0 x7_1).f0), .string ((rd_T42 l0 x7_1).f1), .slice A221_2 ((rd_T42 l0 x7_1).f2).length c221_2, .int .i64 0]) ?_ 3 _ rfl; (with_reducible repeat (first | refine blk_drewN ?_ _ | refine blk_drew ?_ | refine blk_alloc ?_ _)); refine blk_put (cs := #[.bool ((rd_T42 l0 x7_1).f0), .string ((rd_T42 l0 x7_1).f1), .slice none 0 0, .int .i64 0]) ?_ 2 _ rfl; (with_reducible repeat (first | refine blk_drewN ?_ _ | refine blk_drew ?_ | refine blk_alloc ?_ _)); refine blk_put (cs := #[.bool ((rd_T42 l0 x7_1).f0), .string (⟨#[]⟩ : ByteArray), .slice none 0 0, .int .i64 0]) ?_ 1 _ rfl; (with_reducible repeat (first | refine blk_drewN ?_ _ | refine blk_drew ?_ | refine blk_alloc ?_ _)); refine blk_put (cs := #[.bool false, .string (⟨#[]⟩ : ByteArray), .slice none 0 0, .int .i64 0]) ?_ 0 _ rfl; (with_reducible repeat (first | refine blk_drewN ?_ _ | refine blk_drew ?_ | refine blk_alloc ?_ _)); exact BK222.out) hb); have n1_ := Aside0.mk (below_step (by repeat (first | (with_reducible first | exact HB.out | apply below_alloc | apply pw_below_drewN | apply below_drew1 | refine below_set ?_ GE222.out) | exact HB.out)) hb); clear BK222; clear HB; have BK222 := n0_; have HB := n1_; clear n0_ n1_; (try clear hb); (try clear hb2); (try clear hk); (try clear hi); have hcz19_0 : w18.cell? ⟨gb222, 0, none⟩ = some (.bool ((rd_T42 l0 x7_1).f0)) := (blk_cell BK222.out 0).trans rfl; have hcz19_1 : w18.cell? ⟨gb222, 1, none⟩ = some (.string ((rd_T42 l0 x7_1).f1)) := (blk_cell BK222.out 1).trans rfl; have hcz19_2 : w18.cell? ⟨gb222, 2, none⟩ = some (.slice A221_2 ((rd_T42 l0 x7_1).f2).length c221_2) := (blk_cell BK222.out 2).trans rfl; have hcz19_3 : w18.cell? ⟨gb222, 3, none⟩ = some (.int .i64 ((rd_T42 l0 x7_1).f3)) := (blk_cell BK222.out 3).trans rfl; have hfz19_0 := blk_frozen BK222.out 0; have hfz19_1 := blk_frozen BK222.out 1; have hfz19_2 := blk_frozen BK222.out 2; have hfz19_3 := blk_frozen BK222.out 3) | (go_at_call 25; (with_reducible refine (spec_Within.calls ((rd_T42 l0 x7_1).f3) 0 1099511627776 false _ A10.out).mono ?_); rintro e w' ⟨rfl, ⟨nd, rfl⟩⟩))
                  go_ret
                  exact ⟨by first | rfl | (simp [errW_none, errW_some] <;> rfl) | (simp [*, errW_none, errW_some] <;> rfl), by repeat (first | (with_reducible first | exact HB.out | apply below_alloc | apply pw_below_drewN | apply below_drew1 | refine below_set ?_ GE222.out) | exact HB.out)⟩
              · replace c9 := Bool.eq_false_iff.mpr c9
                subst c9
                have H1 : (some false) = some r := by rw [if_neg (show ¬ (false = true) by decide)] at H; exact H
                clear H
                have H := H1
                clear H1
                obtain rfl := Option.some.inj H
                have p221 : 0 ≤ (x7_1 : Int) := of_decide_eq_true (by first | (with_reducible assumption) | assumption)
                have q221 : x7_1 < (l0.length : Int) := of_decide_eq_true (by first | (with_reducible assumption) | assumption)
                obtain ⟨ad221, A221_2, c221_2, e221, hx221_0, hx221_1, hx221_2, hx221_3, hl221_2, hi221_2⟩ := at_T42 HR0.out x7_1 p221 q221
                cases e221
                replace hx221_0 := (HB.out.cell (World.block_lt_of_cell? w _ hx221_0)).trans hx221_0
                replace hx221_1 := (HB.out.cell (World.block_lt_of_cell? w _ hx221_1)).trans hx221_1
                replace hx221_2 := (HB.out.cell (World.block_lt_of_cell? w _ hx221_2)).trans hx221_2
                replace hx221_3 := (HB.out.cell (World.block_lt_of_cell? w _ hx221_3)).trans hx221_3
                have HR221_2 := Aside0.mk hi221_2
                have HC221_2 := Aside0.mk hl221_2
                clear hi221_2 hl221_2
                replace p221 := eq_true p221
                replace q221 := eq_true q221
                go_wp2_with (first | ((with_reducible refine gate_dst (N := 4) rfl ?_); refine box_event ?hg (N := 4) ?hd (cs := #[.bool false, .string (⟨#[]⟩ : ByteArray), .slice none 0 0, .int .i64 0]) (t := 42) ?hr ?_; (case hd => rfl); (case hg => rfl); (case hr => first | (go_simp; done) | (go_simp; rfl)); intro gb222 hg w20 hbox hb; have n0_ := Aside0.mk (below_step (Xb HB.out) hb); have n1_ := Aside0.mk (hbox); have n2_ := Aside0.mk ((by rw [hg]; exact (below_size (Xb HB.out)) : w.heap.size ≤ gb222)); have n3_ := Aside0.mk ((by rw [hg]; exact (below_size (Xb HB.out)) : w.heap.size ≤ gb222)); clear HB; have HB := n0_; have BK222 := n1_; have GW222 := n2_; have GE222 := n3_; clear n0_ n1_ n2_ n3_; clear hb hbox hg; have hcz21_0 : w20.cell? ⟨gb222, 0, none⟩ = some (.bool false) := (blk_cell BK222.out 0).trans rfl; have hcz21_1 : w20.cell? ⟨gb222, 1, none⟩ = some (.string (⟨#[]⟩ : ByteArray)) := (blk_cell BK222.out 1).trans rfl; have hcz21_2 : w20.cell? ⟨gb222, 2, none⟩ = some (.slice none 0 0) := (blk_cell BK222.out 2).trans rfl; have hcz21_3 : w20.cell? ⟨gb222, 3, none⟩ = some (.int .i64 0) := (blk_cell BK222.out 3).trans rfl; have hfz21_0 := blk_frozen BK222.out 0; have hfz21_1 := blk_frozen BK222.out 1; have hfz21_2 := blk_frozen BK222.out 2; have hfz21_3 := blk_frozen BK222.out 3) | (go_at_call 15; (with_reducible refine (spec_SpansOk.calls k1 _ _ ((rd_T42 l0 x7_1).f2) false _ ?side1 ?side2 A8.out).mono ?_); (case side1 => exact Kd.C_below HR221_2.out (by repeat (first | (with_reducible first | exact HB.out | apply below_alloc | apply pw_below_drewN | apply below_drew1 | refine below_set ?_ GE222.out) | exact HB.out))); (case side2 => exact HC221_2.out); rintro e w22 ⟨rfl, hb⟩; have n0_ := Aside0.mk (blk_below (g := gb222) (o := .cells #[.bool ((rd_T42 l0 x7_1).f0), .string ((rd_T42 l0 x7_1).f1), .slice A221_2 ((rd_T42 l0 x7_1).f2).length c221_2, .int .i64 ((rd_T42 l0 x7_1).f3)] 42 (0, 0)) (by (with_reducible repeat (first | refine blk_drewN ?_ _ | refine blk_drew ?_ | refine blk_alloc ?_ _)); refine blk_put (cs := #[.bool ((rd_T42 l0 x7_1).f0), .string ((rd_T42 l0 x7_1).f1), .slice A221_2 ((rd_T42 l0 x7_1).f2).length c221_2, .int .i64 0]) ?_ 3 _ rfl; (with_reducible repeat (first | refine blk_drewN ?_ _ | refine blk_drew ?_ | refine blk_alloc ?_ _)); refine blk_put (cs := #[.bool ((rd_T42 l0 x7_1).f0), .string ((rd_T42 l0 x7_1).f1), .slice none 0 0, .int .i64 0]) ?_ 2 _ rfl; (with_reducible repeat (first | refine blk_drewN ?_ _ | refine blk_drew ?_ | refine blk_alloc ?_ _)); refine blk_put (cs := #[.bool ((rd_T42 l0 x7_1).f0), .string (⟨#[]⟩ : ByteArray), .slice none 0 0, .int .i64 0]) ?_ 1 _ rfl; (with_reducible repeat (first | refine blk_drewN ?_ _ | refine blk_drew ?_ | refine blk_alloc ?_ _)); refine blk_put (cs := #[.bool false, .string (⟨#[]⟩ : ByteArray), .slice none 0 0, .int .i64 0]) ?_ 0 _ rfl; (with_reducible repeat (first | refine blk_drewN ?_ _ | refine blk_drew ?_ | refine blk_alloc ?_ _)); exact BK222.out) hb); have n1_ := Aside0.mk (below_step (by repeat (first | (with_reducible first | exact HB.out | apply below_alloc | apply pw_below_drewN | apply below_drew1 | refine below_set ?_ GE222.out) | exact HB.out)) hb); clear BK222; clear HB; have BK222 := n0_; have HB := n1_; clear n0_ n1_; (try clear hb); (try clear hb2); (try clear hk); (try clear hi)))
                go_ret
                exact ⟨by first | rfl | (simp [errW_none, errW_some] <;> rfl) | (simp [*, errW_none, errW_some] <;> rfl), by repeat (first | (with_reducible first | exact HB.out | apply below_alloc | apply pw_below_drewN | apply below_drew1 | refine below_set ?_ GE222.out) | exact HB.out)⟩
          · rw [if_neg c4] at H
            exact absurd H (by simp)
        · rw [if_neg c3] at H
          exact absurd H (by simp)
      · rw [if_neg c2] at H
        have c2b0 : decide (x7_1 < (l0.length : Int)) = false := decide_eq_false c2
        clear c2
        obtain rfl := Option.some.inj H
        go_wp2
        go_ret
        exact ⟨by first | rfl | (simp [errW_none, errW_some] <;> rfl) | (simp [*, errW_none, errW_some] <;> rfl), by repeat (first | (with_reducible first | exact HB.out | apply below_alloc | apply pw_below_drewN | apply below_drew1) | exact HB.out)⟩
/-! ### spec_Turns: function 33 -/
def spec_Turns.l0 : Nat → Bool → Bool → Bool → List (S64) → List (S42) → Int → Int → Option ((List (S64)))
  | 0, _, _, _, _, _, _, _ => none
  | k + 1, x1, x2, x3, x9, x14, x15, x16 => if x16 < x15 then (if 0 ≤ x16 then (if x16 < (x14.length : Int) then ((spec_HolesText.f k ((rd_T42 x14 x16).f2) x1 x2).bind fun t230 => (if (rd_T42 x14 x16).f0 = true then (if x3 = true then (if (((rd_T42 x14 x16).f2).length : Int) = 0 then (if x9.length < 2932031007402 then (spec_Turns.l0 k x1 x2 x3 (x9 ++ [(⟨3 - 2, (rd_T42 x14 x16).f1, t230, (rd_T42 x14 x16).f3⟩ : S64)]) x14 x15 (wrap64 (x16 + 1))) else (none)) else (if x9.length < 2932031007402 then (spec_Turns.l0 k x1 x2 x3 (x9 ++ [(⟨3, (rd_T42 x14 x16).f1, t230, (rd_T42 x14 x16).f3⟩ : S64)]) x14 x15 (wrap64 (x16 + 1))) else (none))) else (if x9.length < 2932031007402 then (spec_Turns.l0 k x1 x2 x3 (x9 ++ [(⟨3, (rd_T42 x14 x16).f1, t230, (rd_T42 x14 x16).f3⟩ : S64)]) x14 x15 (wrap64 (x16 + 1))) else (none))) else (if x3 = true then (if (((rd_T42 x14 x16).f2).length : Int) = 0 then (if x9.length < 2932031007402 then (spec_Turns.l0 k x1 x2 x3 (x9 ++ [(⟨2 - 2, (rd_T42 x14 x16).f1, t230, (rd_T42 x14 x16).f3⟩ : S64)]) x14 x15 (wrap64 (x16 + 1))) else (none)) else (if x9.length < 2932031007402 then (spec_Turns.l0 k x1 x2 x3 (x9 ++ [(⟨2, (rd_T42 x14 x16).f1, t230, (rd_T42 x14 x16).f3⟩ : S64)]) x14 x15 (wrap64 (x16 + 1))) else (none))) else (if x9.length < 2932031007402 then (spec_Turns.l0 k x1 x2 x3 (x9 ++ [(⟨2, (rd_T42 x14 x16).f1, t230, (rd_T42 x14 x16).f3⟩ : S64)]) x14 x15 (wrap64 (x16 + 1))) else (none))))) else (none)) else (none)) else (some x9)
def spec_Turns.f (k : Nat) (l0 : List (S42)) (a1 : Bool) (a2 : Bool) (a3 : Bool) : Option ((List (S64))) := spec_Turns.l0 k a1 a2 a3 (([] : List (S64))) l0 (l0.length : Int) 0
theorem spec_Turns.mono_l : ∀ k, (∀ y0 y1 y2 y3 y4 y5 y6, LeO (spec_Turns.l0 k y0 y1 y2 y3 y4 y5 y6) (spec_Turns.l0 (k + 1) y0 y1 y2 y3 y4 y5 y6))
  | 0 => fun _ _ _ _ _ _ _ r h => by simp [spec_Turns.l0] at h
  | k + 1 => by
    have ih0 := spec_Turns.mono_l k
    · intro y0 y1 y2 y3 y4 y5 y6
      unfold spec_Turns.l0
      repeat' first
      | (with_reducible exact ih0 _ _ _ _ _ _ _)
      | (with_reducible exact spec_HolesText.mono _ _ _ _)
      | (with_reducible exact LeO.refl _)
      | (with_reducible exact LeO.none _)
      | (with_reducible refine LeO.ite ?_ ?_)
      | (with_reducible refine LeO.bind ?_ (fun _ => ?_))
      | exact ih0 _ _ _ _ _ _ _
      | exact spec_HolesText.mono _ _ _ _
      | exact LeO.none _
      | refine LeO.ite ?_ ?_
      | refine LeO.bind ?_ (fun _ => ?_)
theorem spec_Turns.mono : ∀ a0 a1 a2 a3 k, LeO (spec_Turns.f k a0 a1 a2 a3) (spec_Turns.f (k + 1) a0 a1 a2 a3) := by
  intro a0 a1 a2 a3 k
  have ih0 := spec_Turns.mono_l k
  unfold spec_Turns.f
  repeat' first
      | (with_reducible exact ih0 _ _ _ _ _ _ _)
      | (with_reducible exact spec_HolesText.mono _ _ _ _)
      | (with_reducible exact LeO.refl _)
      | (with_reducible exact LeO.none _)
      | (with_reducible refine LeO.ite ?_ ?_)
      | (with_reducible refine LeO.bind ?_ (fun _ => ?_))
      | exact ih0 _ _ _ _ _ _ _
      | exact spec_HolesText.mono _ _ _ _
      | exact LeO.none _
      | refine LeO.ite ?_ ?_
      | refine LeO.bind ?_ (fun _ => ?_)
def spec_Turns.T5 : Bool × List (List Nat × List Nat) := (true, [([], []), ([0], [0]), ([], []), ([2], [2]), ([], []), ([], []), ([3, 4, 5], [3, 4, 5]), ([], []), ([7], [7]), ([1, 6, 8], [1, 6, 8]), ([], []), ([10, 9, 6, 0, 1, 2, 3, 4, 5, 6, 7, 8, 9, 10], [9, 10])])
def spec_Turns.B5 : List Nat := [0, 1, 0, 4, 0, 0, 60, 0, 128, 511, 0, 2047]
theorem spec_Turns.tab5 : rtab .any (opsOf Tryz.f33 5) = spec_Turns.T5 := by kernel_rfl
theorem spec_Turns.bits5 : waitsOk spec_Turns.T5.2 spec_Turns.B5 = true := by kernel_rfl
/-- The kind of a turn. -/
def tkind (b pl z : Bool) : Int := if b = true then (if (pl && z) = true then 1 else 3) else (if (pl && z) = true then 0 else 2)
theorem turns_step {α : Type} {b pl : Bool} {n : Nat} {acc : List S64} {s1 s2 : ByteArray} {s3 : Int} {go : List S64 → Option α} {r : α}
    (H : (if b = true then (if pl = true then (if (n : Int) = 0 then (if acc.length < 2932031007402 then (go (acc ++ [(⟨3 - 2, s1, s2, s3⟩ : S64)])) else (none)) else (if acc.length < 2932031007402 then (go (acc ++ [(⟨3, s1, s2, s3⟩ : S64)])) else (none))) else (if acc.length < 2932031007402 then (go (acc ++ [(⟨3, s1, s2, s3⟩ : S64)])) else (none))) else (if pl = true then (if (n : Int) = 0 then (if acc.length < 2932031007402 then (go (acc ++ [(⟨2 - 2, s1, s2, s3⟩ : S64)])) else (none)) else (if acc.length < 2932031007402 then (go (acc ++ [(⟨2, s1, s2, s3⟩ : S64)])) else (none))) else (if acc.length < 2932031007402 then (go (acc ++ [(⟨2, s1, s2, s3⟩ : S64)])) else (none)))) = some r) :
    acc.length < 2932031007402 ∧ go (acc ++ [(⟨tkind b pl (decide (n = 0)), s1, s2, s3⟩ : S64)]) = some r := by
  have hz : ((n : Int) = 0) ↔ n = 0 := by omega
  by_cases h4 : acc.length < 2932031007402
  · simp only [if_pos h4] at H
    refine ⟨h4, ?_⟩
    unfold tkind
    cases b <;> cases pl <;> by_cases h3 : n = 0 <;> simp [h3] at H ⊢ <;> exact H
  · exfalso
    simp [h4] at H
set_option maxHeartbeats 8000000 in
set_option maxRecDepth 100000 in
theorem spec_Turns.calls (k : Nat) (A0 : Option Addr) (c0 : Nat) (l0 : List (S42)) (a1 : Bool) (a2 : Bool) (a3 : Bool) (r : List (S64)) (w : World) (hr0 : Kd.C k42 w A0 l0.length l0) (hc0 : l0.length ≤ c0) (h : spec_Turns.f k l0 a1 a2 a3 = some r) :
    Calls Tryz.prog 33 #[.slice A0 l0.length c0, .bool a1, .bool a2, .bool a3] w fun e w' => ∃ v0_ : Value, e = .returned (v0_) ∧ Kd.R k64 64 w' w.heap.size (fun _ => True) v0_ r ∧ Below w.heap.size w w' := by
  have hu42 := Tryz.underlying42
  have hu64 := Tryz.underlying64
  have HR0 := Aside0.mk hr0
  have HC0 := Aside0.mk hc0
  clear hr0 hc0
  have HB := Aside0.mk (Below.refl w.heap.size w)
  have H : (spec_Turns.l0 k a1 a2 a3 (([] : List (S64))) l0 (l0.length : Int) 0) = some r := h
  clear h
  obtain ⟨y225, hy225⟩ : ∃ y_ : List (S64), y_ = (([] : List (S64))) := ⟨_, rfl⟩
  replace H : (spec_Turns.l0 k a1 a2 a3 y225 l0 (l0.length : Int) 0) = some r := by first | (rw [hy225]; with_reducible exact H) | (have H2_ := (Option.bind_some _ _).symm.trans H; rw [hy225]; with_reducible exact H2_) | (have H2_ := (Option.bind_some _ _).symm.trans H; with_reducible exact H2_) | with_reducible exact H | (rw [hy225]; exact H) | exact H
  have Ny225 := Aside0.mk hy225
  clear hy225
  have H' := Aside0.mk H
  clear H
  go_enter Tryz.func33, Tryz.ntmps33
  go_wp2_with (first | ((with_reducible refine gate_dst (N := 13) rfl ?_); (try (refine gate_guard (by rfl) ?_; dsimp only)); refine Kd.R_lit k64 _ 64 ?hg (N := 13) ?hd (xs := ([] : List (S64))) (inner := []) (ok := fun _ => True) (okp := fun _ => True) ?hr ?hp (fun _ hk => hk) trivial (Below.refl _ _) (Nat.le_refl _) (by simp) ?_; (case hd => rfl); (case hg => rfl); (case hr => first | (go_simp; done) | (go_simp; rfl)); (case hp => exact (Reps.none _ _)); intro v226 w5 ho6 hb hg_ hnew_; clear hg_ hnew_; (first | rw [← Ny225.out] at ho6 | (simp only [Int.reduceToNat] at ho6; rw [← Ny225.out] at ho6)); have n0_ := Aside0.mk (Kd.R_lower ho6 (below_size (Xb HB.out))); have n1_ := Aside0.mk (below_step (Xb HB.out) hb); clear HB; have HO227 := n0_; have HB := n1_; clear n0_ n1_; clear hb ho6))
  go_loopg [9, 16] k (fun kq v9 v16 w' => ∃ (x9_1 : List (S64)) (x16_1 : Int), v16 = .int .i64 x16_1 ∧ Aside0 (spec_Turns.l0 kq a1 a2 a3 x9_1 l0 (l0.length : Int) x16_1 = some r) ∧ Aside0 (kq ≤ k) ∧ Aside0 (Kd.R k64 64 w' w.heap.size (fun _ => True) v9 x9_1) ∧ Aside0 (Below w.heap.size w w'))
  case atStart => exact ⟨(y225), (0), (by first | rfl | (simp; done) | (simp [*]; done)), H', ⟨Nat.le_refl _⟩, ⟨by (with_reducible repeat (first | apply Kd.R_alloc | apply Kd.R_drewN | apply Kd.R_drew)); exact HO227.out⟩, ⟨by repeat (first | (with_reducible first | exact HB.out | apply below_alloc | apply pw_below_drewN | apply below_drew1) | exact HB.out)⟩⟩
  case round =>
    clear H'
    try clear p2
    try clear c3
    obtain ⟨x9_1, x16_1, rfl, HA, HK1, HO_9, HB⟩ := hrel
    cases gk with
    | zero => exact absurd HA.out (by simp [spec_Turns.l0])
    | succ k1 =>
      have H := HA.out
      clear HA
      simp only [spec_Turns.l0] at H
      by_cases c7 : x16_1 < (l0.length : Int)
      · rw [if_pos c7] at H
        have c7b0 : decide (x16_1 < (l0.length : Int)) = true := decide_eq_true c7
        clear c7
        by_cases c8 : 0 ≤ x16_1
        · rw [if_pos c8] at H
          have c8b0 : decide (0 ≤ x16_1) = true := decide_eq_true c8
          clear c8
          by_cases c9 : x16_1 < (l0.length : Int)
          · rw [if_pos c9] at H
            have c9b0 : decide (x16_1 < (l0.length : Int)) = true := decide_eq_true c9
            clear c9
            replace H := Option.bind_eq_some_iff.mp H
            obtain ⟨t230, A100, H⟩ := H
            replace H : (if (rd_T42 l0 x16_1).f0 = true then (if a3 = true then (if (((rd_T42 l0 x16_1).f2).length : Int) = 0 then (if x9_1.length < 2932031007402 then (spec_Turns.l0 k1 a1 a2 a3 (x9_1 ++ [(⟨3 - 2, (rd_T42 l0 x16_1).f1, t230, (rd_T42 l0 x16_1).f3⟩ : S64)]) l0 (l0.length : Int) (wrap64 (x16_1 + 1))) else (none)) else (if x9_1.length < 2932031007402 then (spec_Turns.l0 k1 a1 a2 a3 (x9_1 ++ [(⟨3, (rd_T42 l0 x16_1).f1, t230, (rd_T42 l0 x16_1).f3⟩ : S64)]) l0 (l0.length : Int) (wrap64 (x16_1 + 1))) else (none))) else (if x9_1.length < 2932031007402 then (spec_Turns.l0 k1 a1 a2 a3 (x9_1 ++ [(⟨3, (rd_T42 l0 x16_1).f1, t230, (rd_T42 l0 x16_1).f3⟩ : S64)]) l0 (l0.length : Int) (wrap64 (x16_1 + 1))) else (none))) else (if a3 = true then (if (((rd_T42 l0 x16_1).f2).length : Int) = 0 then (if x9_1.length < 2932031007402 then (spec_Turns.l0 k1 a1 a2 a3 (x9_1 ++ [(⟨2 - 2, (rd_T42 l0 x16_1).f1, t230, (rd_T42 l0 x16_1).f3⟩ : S64)]) l0 (l0.length : Int) (wrap64 (x16_1 + 1))) else (none)) else (if x9_1.length < 2932031007402 then (spec_Turns.l0 k1 a1 a2 a3 (x9_1 ++ [(⟨2, (rd_T42 l0 x16_1).f1, t230, (rd_T42 l0 x16_1).f3⟩ : S64)]) l0 (l0.length : Int) (wrap64 (x16_1 + 1))) else (none))) else (if x9_1.length < 2932031007402 then (spec_Turns.l0 k1 a1 a2 a3 (x9_1 ++ [(⟨2, (rd_T42 l0 x16_1).f1, t230, (rd_T42 l0 x16_1).f3⟩ : S64)]) l0 (l0.length : Int) (wrap64 (x16_1 + 1))) else (none)))) = some r := H
            have A10 := Aside0.mk A100
            clear A100
            obtain ⟨z11, hz11⟩ : ∃ b_ : Bool, b_ = decide (((rd_T42 l0 x16_1).f2).length = 0) := ⟨_, rfl⟩
            obtain ⟨bq11, hbq11⟩ : ∃ b_ : Bool, b_ = ((rd_T42 l0 x16_1).f0) := ⟨_, rfl⟩
            have HT0 := turns_step (go := fun y => spec_Turns.l0 k1 a1 a2 a3 y l0 (l0.length : Int) (wrap64 (x16_1 + 1))) H
            rw [← hz11, ← hbq11] at HT0
            have HLT := HT0.1
            have HN := HT0.2
            clear HT0
            clear H
            obtain ⟨y232, hy232⟩ : ∃ y_ : List (S64), y_ = (x9_1 ++ [(⟨tkind bq11 a3 z11, (rd_T42 l0 x16_1).f1, t230, (rd_T42 l0 x16_1).f3⟩ : S64)]) := ⟨_, rfl⟩
            rw [← hy232] at HN
            have Ny232 := Aside0.mk hy232
            clear hy232
            have H' := Aside0.mk HN
            clear HN
            have LMc15 := Aside0.mk HLT
            clear HLT
            have Nbq11 := Aside0.mk hbq11
            clear hbq11
            have NZ11 := Aside0.mk hz11
            clear hz11
            have p228 : 0 ≤ (x16_1 : Int) := of_decide_eq_true (by first | (with_reducible assumption) | assumption)
            have q228 : x16_1 < (l0.length : Int) := of_decide_eq_true (by first | (with_reducible assumption) | assumption)
            obtain ⟨ad228, A228_2, c228_2, e228, hx228_0, hx228_1, hx228_2, hx228_3, hl228_2, hi228_2⟩ := at_T42 HR0.out x16_1 p228 q228
            (try rw [← Nbq11.out] at hx228_0)
            cases e228
            replace hx228_0 := (HB.out.cell (World.block_lt_of_cell? w _ hx228_0)).trans hx228_0
            replace hx228_1 := (HB.out.cell (World.block_lt_of_cell? w _ hx228_1)).trans hx228_1
            replace hx228_2 := (HB.out.cell (World.block_lt_of_cell? w _ hx228_2)).trans hx228_2
            replace hx228_3 := (HB.out.cell (World.block_lt_of_cell? w _ hx228_3)).trans hx228_3
            have HR228_2 := Aside0.mk hi228_2
            have HC228_2 := Aside0.mk hl228_2
            clear hi228_2 hl228_2
            replace p228 := eq_true p228
            replace q228 := eq_true q228
            try go_wp2_with (first | ((with_reducible refine gate_dst (N := 11) rfl ?_); (try (refine gate_guard (by rfl) ?_; dsimp only)); refine box_event ?hg (N := 11) ?hd (cs := #[.bool false, .string (⟨#[]⟩ : ByteArray), .slice none 0 0, .int .i64 0]) (t := 42) ?hr ?_; (case hd => rfl); (case hg => rfl); (case hr => first | (go_simp; done) | (go_simp; rfl)); intro gb229 hg w16 hbox hb; have n0_ := Aside0.mk (Kd.R_below (XR HO_9.out) hb); have n1_ := Aside0.mk (below_step (Xb HB.out) hb); have n2_ := Aside0.mk (hbox); have n3_ := Aside0.mk ((by rw [hg]; exact (below_size (Xb HB.out)) : w.heap.size ≤ gb229)); have n4_ := Aside0.mk ((by rw [hg]; exact (below_size (Xb HB.out)) : w.heap.size ≤ gb229)); clear HO_9; clear HB; have HO_9 := n0_; have HB := n1_; have BK229 := n2_; have GW229 := n3_; have GE229 := n4_; clear n0_ n1_ n2_ n3_ n4_; clear hb hbox hg; have hcz17_0 : w16.cell? ⟨gb229, 0, none⟩ = some (.bool false) := (blk_cell BK229.out 0).trans rfl; have hcz17_1 : w16.cell? ⟨gb229, 1, none⟩ = some (.string (⟨#[]⟩ : ByteArray)) := (blk_cell BK229.out 1).trans rfl; have hcz17_2 : w16.cell? ⟨gb229, 2, none⟩ = some (.slice none 0 0) := (blk_cell BK229.out 2).trans rfl; have hcz17_3 : w16.cell? ⟨gb229, 3, none⟩ = some (.int .i64 0) := (blk_cell BK229.out 3).trans rfl; have hfz17_0 := blk_frozen BK229.out 0; have hfz17_1 := blk_frozen BK229.out 1; have hfz17_2 := blk_frozen BK229.out 2; have hfz17_3 := blk_frozen BK229.out 3))
            have n0_ : Aside0 (Kd.R k64 64 ((((w16.setCell ⟨gb229, 0, none⟩ (.bool bq11)).setCell ⟨gb229, 1, none⟩ (.string ((rd_T42 l0 x16_1).f1))).setCell ⟨gb229, 2, none⟩ (.slice A228_2 ((rd_T42 l0 x16_1).f2).length c228_2)).setCell ⟨gb229, 3, none⟩ (.int .i64 ((rd_T42 l0 x16_1).f3))) w.heap.size (fun _ => True) u9 x9_1) := ⟨by (with_reducible repeat (first | apply Kd.R_alloc | apply Kd.R_drewN | apply Kd.R_drew)); exact Kd.R_mono (Kd.R_far (p := ⟨gb229, 3, none⟩) (Kd.R_far (p := ⟨gb229, 2, none⟩) (Kd.R_far (p := ⟨gb229, 1, none⟩) (Kd.R_far (p := ⟨gb229, 0, none⟩) (Kd.R_types HO_9.out BK229.out (by decide)) (fun _ hk => hk.2) (.bool bq11)) (fun _ hk => hk.2) (.string ((rd_T42 l0 x16_1).f1))) (fun _ hk => hk.2) (.slice A228_2 ((rd_T42 l0 x16_1).f2).length c228_2)) (fun _ hk => hk.2) (.int .i64 ((rd_T42 l0 x16_1).f3))) (fun _ hk => trivial)⟩
            have n1_ : Aside0 (((((w16.setCell ⟨gb229, 0, none⟩ (.bool bq11)).setCell ⟨gb229, 1, none⟩ (.string ((rd_T42 l0 x16_1).f1))).setCell ⟨gb229, 2, none⟩ (.slice A228_2 ((rd_T42 l0 x16_1).f2).length c228_2)).setCell ⟨gb229, 3, none⟩ (.int .i64 ((rd_T42 l0 x16_1).f3))).heap[gb229]? = some (.cells #[.bool bq11, .string ((rd_T42 l0 x16_1).f1), .slice A228_2 ((rd_T42 l0 x16_1).f2).length c228_2, .int .i64 ((rd_T42 l0 x16_1).f3)] 42 (0, 0))) := ⟨by (with_reducible repeat (first | refine blk_drewN ?_ _ | refine blk_drew ?_ | refine blk_alloc ?_ _)); refine blk_put (cs := #[.bool bq11, .string ((rd_T42 l0 x16_1).f1), .slice A228_2 ((rd_T42 l0 x16_1).f2).length c228_2, .int .i64 0]) ?_ 3 _ rfl; (with_reducible repeat (first | refine blk_drewN ?_ _ | refine blk_drew ?_ | refine blk_alloc ?_ _)); refine blk_put (cs := #[.bool bq11, .string ((rd_T42 l0 x16_1).f1), .slice none 0 0, .int .i64 0]) ?_ 2 _ rfl; (with_reducible repeat (first | refine blk_drewN ?_ _ | refine blk_drew ?_ | refine blk_alloc ?_ _)); refine blk_put (cs := #[.bool bq11, .string (⟨#[]⟩ : ByteArray), .slice none 0 0, .int .i64 0]) ?_ 1 _ rfl; (with_reducible repeat (first | refine blk_drewN ?_ _ | refine blk_drew ?_ | refine blk_alloc ?_ _)); refine blk_put (cs := #[.bool false, .string (⟨#[]⟩ : ByteArray), .slice none 0 0, .int .i64 0]) ?_ 0 _ rfl; (with_reducible repeat (first | refine blk_drewN ?_ _ | refine blk_drew ?_ | refine blk_alloc ?_ _)); exact BK229.out⟩
            have n2_ : Aside0 (Below w.heap.size w ((((w16.setCell ⟨gb229, 0, none⟩ (.bool bq11)).setCell ⟨gb229, 1, none⟩ (.string ((rd_T42 l0 x16_1).f1))).setCell ⟨gb229, 2, none⟩ (.slice A228_2 ((rd_T42 l0 x16_1).f2).length c228_2)).setCell ⟨gb229, 3, none⟩ (.int .i64 ((rd_T42 l0 x16_1).f3)))) := ⟨by repeat (first | (with_reducible first | exact HB.out | apply below_alloc | apply pw_below_drewN | apply below_drew1 | refine below_set ?_ GE229.out) | exact HB.out)⟩
            (try clear HO_9)
            (try clear BK229)
            (try clear HB)
            generalize ((((w16.setCell ⟨gb229, 0, none⟩ (.bool bq11)).setCell ⟨gb229, 1, none⟩ (.string ((rd_T42 l0 x16_1).f1))).setCell ⟨gb229, 2, none⟩ (.slice A228_2 ((rd_T42 l0 x16_1).f2).length c228_2)).setCell ⟨gb229, 3, none⟩ (.int .i64 ((rd_T42 l0 x16_1).f3))) = w18 at n0_ n1_ n2_ ⊢
            have HO_9 := n0_
            have BK229 := n1_
            have HB := n2_
            clear n0_ n1_ n2_
            have n0_ := Aside0.mk (Kd.R_drew HO_9.out)
            have n1_ := Aside0.mk (blk_drew BK229.out)
            have n2_ := Aside0.mk (below_drew1 HB.out)
            clear HO_9
            clear BK229
            clear HB
            have HO_9 := n0_
            have BK229 := n1_
            have HB := n2_
            clear n0_ n1_ n2_
            refine start_ (n := 12) (S := fun w' => w'.cell? ⟨gb229, 0, none⟩ = some (.bool bq11) ∧ w'.cell? ⟨gb229, 1, none⟩ = some (.string ((rd_T42 l0 x16_1).f1)) ∧ w'.cell? ⟨gb229, 2, none⟩ = some (.slice A228_2 ((rd_T42 l0 x16_1).f2).length c228_2) ∧ w'.cell? ⟨gb229, 3, none⟩ = some (.int .i64 ((rd_T42 l0 x16_1).f3))) (ds := []) #[false, false, false, false, false, false, false, false, false, false, false, false] (by kernel_rfl) rfl rfl ⟨(blk_cell BK229.out 0).trans rfl, (blk_cell BK229.out 1).trans rfl, (blk_cell BK229.out 2).trans rfl, (blk_cell BK229.out 3).trans rfl⟩ (fun hHeld => ?_); refine with_tabW spec_Turns.tab5 spec_Turns.bits5 (fun HT_ HW_ => ?_)
            generalize w18.drew = w19 at HO_9 BK229 HB hHeld ⊢
            refine pure_ (i := 0) (N := some 20) (v := ?_) (a' := ?_) #[true, false, false, false, false, false, false, false, false, false, false, false] rfl rfl (any_of HT_.out (by kernel_rfl)) (fun _ _ _ h => h) (Or.inl ⟨by rfl, ?_⟩) ?_ ?_
            rotate_left
            · intro w'
              go_simp
              with_reducible rfl
            rotate_left
            · simp only [Act.put, List.setIfInBounds_toArray, List.set_cons_zero, List.set_cons_succ, i64_w, i32_w]
              rfl
            refine pure_ (i := 2) (N := some 22) (v := ?_) (a' := ?_) #[true, false, true, false, false, false, false, false, false, false, false, false] rfl rfl (any_of HT_.out (by kernel_rfl)) (fun _ _ _ h => h) (Or.inl ⟨by rfl, ?_⟩) ?_ ?_
            rotate_left
            · intro w'
              go_simp
              with_reducible rfl
            rotate_left
            · simp only [Act.put, List.setIfInBounds_toArray, List.set_cons_zero, List.set_cons_succ, i64_w, i32_w]
              rfl
            refine pure_ (i := 4) (N := some 24) (v := ?_) (a' := ?_) #[true, false, true, false, true, false, false, false, false, false, false, false] rfl rfl (any_of HT_.out (by kernel_rfl)) (fun _ _ _ h => h) (Or.inl ⟨by rfl, ?_⟩) ?_ ?_
            rotate_left
            · intro w'
              go_simp
              with_reducible rfl
            rotate_left
            · simp only [Act.put, List.setIfInBounds_toArray, List.set_cons_zero, List.set_cons_succ, i64_w, i32_w]
              rfl
            refine pure_ (i := 5) (N := some 25) (v := ?_) (a' := ?_) #[true, false, true, false, true, true, false, false, false, false, false, false] rfl rfl (any_of HT_.out (by kernel_rfl)) (fun _ _ _ h => h) (Or.inl ⟨by rfl, ?_⟩) ?_ ?_
            rotate_left
            · intro w'
              go_simp
              with_reducible rfl
            rotate_left
            · simp only [Act.put, List.setIfInBounds_toArray, List.set_cons_zero, List.set_cons_succ, i64_w, i32_w]
              rfl
            refine pure_ (i := 7) (N := some 27) (v := ?_) (a' := ?_) #[true, false, true, false, true, true, false, true, false, false, false, false] rfl rfl (any_of HT_.out (by kernel_rfl)) (fun _ _ _ h => h) (Or.inl ⟨by rfl, ?_⟩) ?_ ?_
            rotate_left
            · intro w'
              go_simp
              with_reducible rfl
            rotate_left
            · simp only [Act.put, List.setIfInBounds_toArray, List.set_cons_zero, List.set_cons_succ, i64_w, i32_w]
              rfl
            refine take_ (i := 1) (N := some 21) (v := ?_) (a' := ?_) #[true, true, true, false, true, true, false, true, false, false, false, false] rfl rfl (take_ofW HT_.out HW_.out (by kernel_rfl)) (fun _ _ _ h => h) (Or.inl ⟨by rfl, ?_⟩) hHeld ?_ ?_
            rotate_left
            · rintro w' ⟨s0, s1, s2, s3⟩
              go_simp
              with_reducible rfl
            rotate_left
            · simp only [Act.put, List.setIfInBounds_toArray, List.set_cons_zero, List.set_cons_succ, i64_w, i32_w]
              rfl
            refine take_ (i := 3) (N := some 23) (v := ?_) (a' := ?_) #[true, true, true, true, true, true, false, true, false, false, false, false] rfl rfl (take_ofW HT_.out HW_.out (by kernel_rfl)) (fun _ _ _ h => h) (Or.inl ⟨by rfl, ?_⟩) hHeld ?_ ?_
            rotate_left
            · rintro w' ⟨s0, s1, s2, s3⟩
              go_simp
              with_reducible rfl
            rotate_left
            · simp only [Act.put, List.setIfInBounds_toArray, List.set_cons_zero, List.set_cons_succ, i64_w, i32_w]
              rfl
            refine take_ (i := 8) (N := some 28) (v := ?_) (a' := ?_) #[true, true, true, true, true, true, false, true, true, false, false, false] rfl rfl (take_ofW HT_.out HW_.out (by kernel_rfl)) (fun _ _ _ h => h) (Or.inl ⟨by rfl, ?_⟩) hHeld ?_ ?_
            rotate_left
            · rintro w' ⟨s0, s1, s2, s3⟩
              go_simp
              with_reducible rfl
            rotate_left
            · simp only [Act.put, List.setIfInBounds_toArray, List.set_cons_zero, List.set_cons_succ, i64_w, i32_w]
              rfl
            refine join_ (σ := Nat) 1 #[true, true, true, true, true, true, true, true, true, true, true, false] (fun s_ => [(26, .string t230), (12, .pointer (some ⟨s_, 0, none⟩)), (29, .agg #[.int .i64 2, .string ((rd_T42 l0 x16_1).f1), .string t230, .int .i64 ((rd_T42 l0 x16_1).f3)])]) (fun s_ w' => (w'.cell? ⟨gb229, 0, none⟩ = some (.bool bq11) ∧ w'.cell? ⟨gb229, 1, none⟩ = some (.string ((rd_T42 l0 x16_1).f1)) ∧ w'.cell? ⟨gb229, 2, none⟩ = some (.slice A228_2 ((rd_T42 l0 x16_1).f2).length c228_2) ∧ w'.cell? ⟨gb229, 3, none⟩ = some (.int .i64 ((rd_T42 l0 x16_1).f3))) ∧ (Kd.R k64 64 w' w.heap.size (fun k_ => k_ ≠ s_) u9 x9_1) ∧ (w'.heap[gb229]? = some (.cells #[.bool bq11, .string ((rd_T42 l0 x16_1).f1), .slice A228_2 ((rd_T42 l0 x16_1).f2).length c228_2, .int .i64 ((rd_T42 l0 x16_1).f3)] 42 (0, 0))) ∧ (w'.heap[s_]? = some (.cells #[.int .i64 0, .string (⟨#[]⟩ : ByteArray), .string (⟨#[]⟩ : ByteArray), .int .i64 0] 64 (0, 0))) ∧ (w.heap.size ≤ s_) ∧ (w.heap.size ≤ s_) ∧ (gb229 ≠ s_) ∧ (s_ ≠ gb229) ∧ (Below w.heap.size w w')) ?_ ?_
            rotate_left
            · intro hCont
              refine two_ (i := 6) (j := 10) (Ni := some 26) (Nj := some 12) #[true, true, true, true, true, true, true, true, true, false, false, false] #[true, true, true, true, true, true, false, true, true, false, true, false] rfl rfl rfl rfl (two_of HT_.out (by kernel_rfl)) (by decide) (by decide) (fun K hK => ?_) (fun K hK => ?_)
              · skip
                refine goes_ Tryz.func18 (by kernel_rfl) rfl #[.slice A228_2 ((rd_T42 l0 x16_1).f2).length c228_2, .bool a1, .bool a2] (by rfl) rfl rfl (by (try simp only [List.map_toArray, List.map_cons, List.map_nil]); first | done | rfl | (simp only [List.length_drop, List.length_take]; rfl)) ?_
                with_reducible refine (spec_HolesText.calls k1 _ _ ((rd_T42 l0 x16_1).f2) a1 a2 t230 _ ?side1 ?side2 A10.out).mono ?_
                (case side1 => exact XC (Kd.C_below HR228_2.out HB.out))
                (case side2 => exact HC228_2.out)
                rintro e w20 ⟨rfl, hb⟩
                refine ⟨_, rfl, ?_⟩
                have n0_ := Aside0.mk (Kd.R_below (XR HO_9.out) hb)
                have n1_ := Aside0.mk (blk_below (g := gb229) (o := .cells #[.bool bq11, .string ((rd_T42 l0 x16_1).f1), .slice A228_2 ((rd_T42 l0 x16_1).f2).length c228_2, .int .i64 ((rd_T42 l0 x16_1).f3)] 42 (0, 0)) (by (with_reducible repeat (first | refine blk_drewN ?_ _ | refine blk_drew ?_ | refine blk_alloc ?_ _)); exact BK229.out) hb)
                have n2_ := Aside0.mk (below_step (by repeat (first | (with_reducible first | exact HB.out | apply below_alloc | apply pw_below_drewN | apply below_drew1 | refine below_set ?_ GE229.out) | exact HB.out)) hb)
                clear HO_9
                clear BK229
                clear HB
                have HO_9 := n0_
                have BK229 := n1_
                have HB := n2_
                clear n0_ n1_ n2_
                (try clear hb)
                (try clear hb2)
                (try clear hk)
                (try clear hi)
                refine hK.out _ _ ⟨(blk_cell BK229.out 0).trans rfl, (blk_cell BK229.out 1).trans rfl, (blk_cell BK229.out 2).trans rfl, (blk_cell BK229.out 3).trans rfl⟩ (fun hHeld => ?_)
                clear hK K
                refine norm_ (a' := ?_) ?_ ?_
                rotate_left
                · show Act.put _ (some 26) _ = _
                  simp only [Act.put, List.setIfInBounds_toArray, List.set_cons_zero, List.set_cons_succ, i64_w, i32_w]
                  rfl
                refine pure_ (i := 9) (N := some 29) (v := ?_) (a' := ?_) #[true, true, true, true, true, true, true, true, true, true, false, false] rfl rfl (any_of HT_.out (by kernel_rfl)) (fun _ _ _ h => h) (Or.inl ⟨by rfl, ?_⟩) ?_ ?_
                rotate_left
                · intro w'
                  go_simp
                  with_reducible rfl
                rotate_left
                · simp only [Act.put, List.setIfInBounds_toArray, List.set_cons_zero, List.set_cons_succ, i64_w, i32_w]
                  rfl
                refine one_ (i := 10) (N := some 12) #[true, true, true, true, true, true, true, true, true, true, true, false] rfl rfl (one_of HT_.out (by kernel_rfl)) (by decide) (fun K hK => ?_)
                refine box_step ?hg (N := 12) ?hd (cs := #[.int .i64 0, .string (⟨#[]⟩ : ByteArray), .string (⟨#[]⟩ : ByteArray), .int .i64 0]) (t := 64) ?hr ?_; (case hd => rfl); (case hg => rfl); (case hr => first | (go_simp; done) | (go_simp; rfl))
                intro gb231 hg w21 hbox hb
                have n0_ := Aside0.mk (Kd.R_below (Kd.R_elderB (XR HO_9.out) gb231 (Nat.le_of_eq hg.symm)) hb)
                have n1_ := Aside0.mk (blk_below (g := gb229) (o := .cells #[.bool bq11, .string ((rd_T42 l0 x16_1).f1), .slice A228_2 ((rd_T42 l0 x16_1).f2).length c228_2, .int .i64 ((rd_T42 l0 x16_1).f3)] 42 (0, 0)) (by (with_reducible repeat (first | refine blk_drewN ?_ _ | refine blk_drew ?_ | refine blk_alloc ?_ _)); exact BK229.out) hb)
                have n2_ := Aside0.mk (below_step (by repeat (first | (with_reducible first | exact HB.out | apply below_alloc | apply pw_below_drewN | apply below_drew1 | refine below_set ?_ GE229.out) | exact HB.out)) hb)
                have n3_ := Aside0.mk (hbox)
                have n4_ := Aside0.mk ((by rw [hg]; exact (below_size (by repeat (first | (with_reducible first | exact HB.out | apply below_alloc | apply pw_below_drewN | apply below_drew1 | refine below_set ?_ GE229.out) | exact HB.out))) : w.heap.size ≤ gb231))
                have n5_ := Aside0.mk ((by rw [hg]; exact (below_size (by repeat (first | (with_reducible first | exact HB.out | apply below_alloc | apply pw_below_drewN | apply below_drew1 | refine below_set ?_ GE229.out) | exact HB.out))) : w.heap.size ≤ gb231))
                have n6_ := Aside0.mk ((by rw [hg]; exact Nat.ne_of_lt (blk_lt (g := gb229) (o := .cells #[.bool bq11, .string ((rd_T42 l0 x16_1).f1), .slice A228_2 ((rd_T42 l0 x16_1).f2).length c228_2, .int .i64 ((rd_T42 l0 x16_1).f3)] 42 (0, 0)) (by (with_reducible repeat (first | refine blk_drewN ?_ _ | refine blk_drew ?_ | refine blk_alloc ?_ _)); exact BK229.out)) : gb229 ≠ gb231))
                have n7_ := Aside0.mk ((by rw [hg]; exact Nat.ne_of_gt (blk_lt (g := gb229) (o := .cells #[.bool bq11, .string ((rd_T42 l0 x16_1).f1), .slice A228_2 ((rd_T42 l0 x16_1).f2).length c228_2, .int .i64 ((rd_T42 l0 x16_1).f3)] 42 (0, 0)) (by (with_reducible repeat (first | refine blk_drewN ?_ _ | refine blk_drew ?_ | refine blk_alloc ?_ _)); exact BK229.out)) : gb231 ≠ gb229))
                clear HO_9
                clear BK229
                clear HB
                have HO_9 := n0_
                have BK229 := n1_
                have HB := n2_
                have BK231 := n3_
                have GW231 := n4_
                have GE231 := n5_
                have NB229_231 := n6_
                have NB231_229 := n7_
                clear n0_ n1_ n2_ n3_ n4_ n5_ n6_ n7_
                clear hb hbox hg
                refine hK.out _ _ ⟨(blk_cell BK229.out 0).trans rfl, (blk_cell BK229.out 1).trans rfl, (blk_cell BK229.out 2).trans rfl, (blk_cell BK229.out 3).trans rfl⟩ (fun hHeld => ?_)
                clear hK K
                refine norm_ (a' := ?_) ?_ ?_
                rotate_left
                · show Act.put _ (some 12) _ = _
                  simp only [Act.put, List.setIfInBounds_toArray, List.set_cons_zero, List.set_cons_succ, i64_w, i32_w]
                  rfl
                exact norm_ (by simp only [putAll, Act.put, List.setIfInBounds_toArray, List.set_cons_zero, List.set_cons_succ]) (hCont (gb231) _ ⟨hHeld, (by (with_reducible repeat (first | apply Kd.R_alloc | apply Kd.R_drewN | apply Kd.R_drew)); exact Kd.R_mono HO_9.out (fun _ hk => hk.2)), (by (with_reducible repeat (first | refine blk_drewN ?_ _ | refine blk_drew ?_ | refine blk_alloc ?_ _)); exact BK229.out), (by (with_reducible repeat (first | refine blk_drewN ?_ _ | refine blk_drew ?_ | refine blk_alloc ?_ _)); exact BK231.out), GW231.out, GE231.out, NB229_231.out, NB231_229.out, (by repeat (first | (with_reducible first | exact HB.out | apply below_alloc | apply pw_below_drewN | apply below_drew1 | refine below_set ?_ GE229.out | refine below_set ?_ GE231.out) | exact HB.out))⟩)
              · skip
                refine box_step ?hg (N := 12) ?hd (cs := #[.int .i64 0, .string (⟨#[]⟩ : ByteArray), .string (⟨#[]⟩ : ByteArray), .int .i64 0]) (t := 64) ?hr ?_; (case hd => rfl); (case hg => rfl); (case hr => first | (go_simp; done) | (go_simp; rfl))
                intro gb231 hg w20 hbox hb
                have n0_ := Aside0.mk (Kd.R_below (Kd.R_elderB (XR HO_9.out) gb231 (Nat.le_of_eq hg.symm)) hb)
                have n1_ := Aside0.mk (blk_below (g := gb229) (o := .cells #[.bool bq11, .string ((rd_T42 l0 x16_1).f1), .slice A228_2 ((rd_T42 l0 x16_1).f2).length c228_2, .int .i64 ((rd_T42 l0 x16_1).f3)] 42 (0, 0)) (by (with_reducible repeat (first | refine blk_drewN ?_ _ | refine blk_drew ?_ | refine blk_alloc ?_ _)); exact BK229.out) hb)
                have n2_ := Aside0.mk (below_step (by repeat (first | (with_reducible first | exact HB.out | apply below_alloc | apply pw_below_drewN | apply below_drew1 | refine below_set ?_ GE229.out) | exact HB.out)) hb)
                have n3_ := Aside0.mk (hbox)
                have n4_ := Aside0.mk ((by rw [hg]; exact (below_size (by repeat (first | (with_reducible first | exact HB.out | apply below_alloc | apply pw_below_drewN | apply below_drew1 | refine below_set ?_ GE229.out) | exact HB.out))) : w.heap.size ≤ gb231))
                have n5_ := Aside0.mk ((by rw [hg]; exact (below_size (by repeat (first | (with_reducible first | exact HB.out | apply below_alloc | apply pw_below_drewN | apply below_drew1 | refine below_set ?_ GE229.out) | exact HB.out))) : w.heap.size ≤ gb231))
                have n6_ := Aside0.mk ((by rw [hg]; exact Nat.ne_of_lt (blk_lt (g := gb229) (o := .cells #[.bool bq11, .string ((rd_T42 l0 x16_1).f1), .slice A228_2 ((rd_T42 l0 x16_1).f2).length c228_2, .int .i64 ((rd_T42 l0 x16_1).f3)] 42 (0, 0)) (by (with_reducible repeat (first | refine blk_drewN ?_ _ | refine blk_drew ?_ | refine blk_alloc ?_ _)); exact BK229.out)) : gb229 ≠ gb231))
                have n7_ := Aside0.mk ((by rw [hg]; exact Nat.ne_of_gt (blk_lt (g := gb229) (o := .cells #[.bool bq11, .string ((rd_T42 l0 x16_1).f1), .slice A228_2 ((rd_T42 l0 x16_1).f2).length c228_2, .int .i64 ((rd_T42 l0 x16_1).f3)] 42 (0, 0)) (by (with_reducible repeat (first | refine blk_drewN ?_ _ | refine blk_drew ?_ | refine blk_alloc ?_ _)); exact BK229.out)) : gb231 ≠ gb229))
                clear HO_9
                clear BK229
                clear HB
                have HO_9 := n0_
                have BK229 := n1_
                have HB := n2_
                have BK231 := n3_
                have GW231 := n4_
                have GE231 := n5_
                have NB229_231 := n6_
                have NB231_229 := n7_
                clear n0_ n1_ n2_ n3_ n4_ n5_ n6_ n7_
                clear hb hbox hg
                refine hK.out _ _ ⟨(blk_cell BK229.out 0).trans rfl, (blk_cell BK229.out 1).trans rfl, (blk_cell BK229.out 2).trans rfl, (blk_cell BK229.out 3).trans rfl⟩ (fun hHeld => ?_)
                clear hK K
                refine norm_ (a' := ?_) ?_ ?_
                rotate_left
                · show Act.put _ (some 12) _ = _
                  simp only [Act.put, List.setIfInBounds_toArray, List.set_cons_zero, List.set_cons_succ, i64_w, i32_w]
                  rfl
                refine one_ (i := 6) (N := some 26) #[true, true, true, true, true, true, true, true, true, false, true, false] rfl rfl (one_of HT_.out (by kernel_rfl)) (by decide) (fun K hK => ?_)
                refine goes_ Tryz.func18 (by kernel_rfl) rfl #[.slice A228_2 ((rd_T42 l0 x16_1).f2).length c228_2, .bool a1, .bool a2] (by rfl) rfl rfl (by (try simp only [List.map_toArray, List.map_cons, List.map_nil]); first | done | rfl | (simp only [List.length_drop, List.length_take]; rfl)) ?_
                with_reducible refine (spec_HolesText.calls k1 _ _ ((rd_T42 l0 x16_1).f2) a1 a2 t230 _ ?side1 ?side2 A10.out).mono ?_
                (case side1 => exact XC (Kd.C_below HR228_2.out HB.out))
                (case side2 => exact HC228_2.out)
                rintro e w21 ⟨rfl, hb⟩
                refine ⟨_, rfl, ?_⟩
                have n0_ := Aside0.mk (Kd.R_below (XR HO_9.out) hb)
                have n1_ := Aside0.mk (blk_below (g := gb229) (o := .cells #[.bool bq11, .string ((rd_T42 l0 x16_1).f1), .slice A228_2 ((rd_T42 l0 x16_1).f2).length c228_2, .int .i64 ((rd_T42 l0 x16_1).f3)] 42 (0, 0)) (by (with_reducible repeat (first | refine blk_drewN ?_ _ | refine blk_drew ?_ | refine blk_alloc ?_ _)); exact BK229.out) hb)
                have n2_ := Aside0.mk (blk_below (g := gb231) (o := .cells #[.int .i64 0, .string (⟨#[]⟩ : ByteArray), .string (⟨#[]⟩ : ByteArray), .int .i64 0] 64 (0, 0)) (by (with_reducible repeat (first | refine blk_drewN ?_ _ | refine blk_drew ?_ | refine blk_alloc ?_ _)); exact BK231.out) hb)
                have n3_ := Aside0.mk (below_step (by repeat (first | (with_reducible first | exact HB.out | apply below_alloc | apply pw_below_drewN | apply below_drew1 | refine below_set ?_ GE229.out | refine below_set ?_ GE231.out) | exact HB.out)) hb)
                clear HO_9
                clear BK229
                clear BK231
                clear HB
                have HO_9 := n0_
                have BK229 := n1_
                have BK231 := n2_
                have HB := n3_
                clear n0_ n1_ n2_ n3_
                (try clear hb)
                (try clear hb2)
                (try clear hk)
                (try clear hi)
                refine hK.out _ _ ⟨(blk_cell BK229.out 0).trans rfl, (blk_cell BK229.out 1).trans rfl, (blk_cell BK229.out 2).trans rfl, (blk_cell BK229.out 3).trans rfl⟩ (fun hHeld => ?_)
                clear hK K
                refine norm_ (a' := ?_) ?_ ?_
                rotate_left
                · show Act.put _ (some 26) _ = _
                  simp only [Act.put, List.setIfInBounds_toArray, List.set_cons_zero, List.set_cons_succ, i64_w, i32_w]
                  rfl
                refine pure_ (i := 9) (N := some 29) (v := ?_) (a' := ?_) #[true, true, true, true, true, true, true, true, true, true, true, false] rfl rfl (any_of HT_.out (by kernel_rfl)) (fun _ _ _ h => h) (Or.inl ⟨by rfl, ?_⟩) ?_ ?_
                rotate_left
                · intro w'
                  go_simp
                  with_reducible rfl
                rotate_left
                · simp only [Act.put, List.setIfInBounds_toArray, List.set_cons_zero, List.set_cons_succ, i64_w, i32_w]
                  rfl
                exact norm_ (by simp only [putAll, Act.put, List.setIfInBounds_toArray, List.set_cons_zero, List.set_cons_succ]) (hCont (gb231) _ ⟨hHeld, (by (with_reducible repeat (first | apply Kd.R_alloc | apply Kd.R_drewN | apply Kd.R_drew)); exact Kd.R_mono HO_9.out (fun _ hk => hk.2)), (by (with_reducible repeat (first | refine blk_drewN ?_ _ | refine blk_drew ?_ | refine blk_alloc ?_ _)); exact BK229.out), (by (with_reducible repeat (first | refine blk_drewN ?_ _ | refine blk_drew ?_ | refine blk_alloc ?_ _)); exact BK231.out), GW231.out, GE231.out, NB229_231.out, NB231_229.out, (by repeat (first | (with_reducible first | exact HB.out | apply below_alloc | apply pw_below_drewN | apply below_drew1 | refine below_set ?_ GE229.out | refine below_set ?_ GE231.out) | exact HB.out))⟩)
            rintro gb231 w22 ⟨hS_, h0_, h1_, h2_, h3_, h4_, h5_, h6_, h7_⟩
            have n0_ : Aside0 (Kd.R k64 64 w22 w.heap.size (fun k_ => k_ ≠ gb231) u9 x9_1) := ⟨h0_⟩
            have n1_ : Aside0 (w22.heap[gb229]? = some (.cells #[.bool bq11, .string ((rd_T42 l0 x16_1).f1), .slice A228_2 ((rd_T42 l0 x16_1).f2).length c228_2, .int .i64 ((rd_T42 l0 x16_1).f3)] 42 (0, 0))) := ⟨h1_⟩
            have n2_ : Aside0 (w22.heap[gb231]? = some (.cells #[.int .i64 0, .string (⟨#[]⟩ : ByteArray), .string (⟨#[]⟩ : ByteArray), .int .i64 0] 64 (0, 0))) := ⟨h2_⟩
            have n3_ : Aside0 (w.heap.size ≤ gb231) := ⟨h3_⟩
            have n4_ : Aside0 (w.heap.size ≤ gb231) := ⟨h4_⟩
            have n5_ : Aside0 (gb229 ≠ gb231) := ⟨h5_⟩
            have n6_ : Aside0 (gb231 ≠ gb229) := ⟨h6_⟩
            have n7_ : Aside0 (Below w.heap.size w w22) := ⟨h7_⟩
            clear HO_9
            clear BK229
            clear HB
            clear h0_ h1_ h2_ h3_ h4_ h5_ h6_ h7_
            have HO_9 := n0_
            have BK229 := n1_
            have BK231 := n2_
            have GW231 := n3_
            have GE231 := n4_
            have NB229_231 := n5_
            have NB231_229 := n6_
            have HB := n7_
            clear n0_ n1_ n2_ n3_ n4_ n5_ n6_ n7_
            have hHeld : w22.cell? ⟨gb229, 0, none⟩ = some (.bool bq11) ∧ w22.cell? ⟨gb229, 1, none⟩ = some (.string ((rd_T42 l0 x16_1).f1)) ∧ w22.cell? ⟨gb229, 2, none⟩ = some (.slice A228_2 ((rd_T42 l0 x16_1).f2).length c228_2) ∧ w22.cell? ⟨gb229, 3, none⟩ = some (.int .i64 ((rd_T42 l0 x16_1).f3)) := hS_
            refine norm_ (a' := ?_) ?_ ?_
            rotate_left
            · simp only [putAll, Act.put, List.setIfInBounds_toArray, List.set_cons_zero, List.set_cons_succ]
              rfl
            refine one_ (i := 11) (N := none) #[true, true, true, true, true, true, true, true, true, true, true, true] rfl rfl (one_of HT_.out (by kernel_rfl)) (by decide) (fun K hK => ?_)
            have hs23 : w22.cell? ⟨gb231, 0, none⟩ = some (.int .i64 0) := (blk_cell BK231.out 0).trans rfl
            have hfs23 := blk_frozen BK231.out 0
            have hns23_0 := NB229_231.out
            have hms23_0 := NB231_229.out
            have hs24 : w22.cell? ⟨gb231, 1, none⟩ = some (.string (⟨#[]⟩ : ByteArray)) := (blk_cell BK231.out 1).trans rfl
            have hfs24 := blk_frozen BK231.out 1
            have hns24_0 := NB229_231.out
            have hms24_0 := NB231_229.out
            have hs25 : w22.cell? ⟨gb231, 2, none⟩ = some (.string (⟨#[]⟩ : ByteArray)) := (blk_cell BK231.out 2).trans rfl
            have hfs25 := blk_frozen BK231.out 2
            have hns25_0 := NB229_231.out
            have hms25_0 := NB231_229.out
            have hs26 : w22.cell? ⟨gb231, 3, none⟩ = some (.int .i64 0) := (blk_cell BK231.out 3).trans rfl
            have hfs26 := blk_frozen BK231.out 3
            have hns26_0 := NB229_231.out
            have hms26_0 := NB231_229.out
            refine skip_ (w1 := ?_) (by rfl) rfl ?_ ?_
            rotate_left
            · go_simp
              rfl
            refine hK.out _ _ ⟨((cell_far (p := ⟨gb231, _, none⟩) NB229_231.out _).trans (((cell_far (p := ⟨gb231, _, none⟩) NB229_231.out _).trans (((cell_far (p := ⟨gb231, _, none⟩) NB229_231.out _).trans (((cell_far (p := ⟨gb231, _, none⟩) NB229_231.out _).trans (hHeld.1)))))))), ((cell_far (p := ⟨gb231, _, none⟩) NB229_231.out _).trans (((cell_far (p := ⟨gb231, _, none⟩) NB229_231.out _).trans (((cell_far (p := ⟨gb231, _, none⟩) NB229_231.out _).trans (((cell_far (p := ⟨gb231, _, none⟩) NB229_231.out _).trans (hHeld.2.1)))))))), ((cell_far (p := ⟨gb231, _, none⟩) NB229_231.out _).trans (((cell_far (p := ⟨gb231, _, none⟩) NB229_231.out _).trans (((cell_far (p := ⟨gb231, _, none⟩) NB229_231.out _).trans (((cell_far (p := ⟨gb231, _, none⟩) NB229_231.out _).trans (hHeld.2.2.1)))))))), ((cell_far (p := ⟨gb231, _, none⟩) NB229_231.out _).trans (((cell_far (p := ⟨gb231, _, none⟩) NB229_231.out _).trans (((cell_far (p := ⟨gb231, _, none⟩) NB229_231.out _).trans (((cell_far (p := ⟨gb231, _, none⟩) NB229_231.out _).trans (hHeld.2.2.2))))))))⟩ (fun hHeld => ?_)
            clear hK K
            refine done_ (done_of HT_.out (by kernel_rfl)) ?_
            clear hHeld hx228_0 hx228_1 hx228_2 hx228_3 hs23 hfs23 hs24 hfs24 hs25 hfs25 hs26 hfs26
            have n0_ : Aside0 (Kd.R k64 64 ((((w22.setCell ⟨gb231, 0, none⟩ (.int .i64 2)).setCell ⟨gb231, 1, none⟩ (.string ((rd_T42 l0 x16_1).f1))).setCell ⟨gb231, 2, none⟩ (.string t230)).setCell ⟨gb231, 3, none⟩ (.int .i64 ((rd_T42 l0 x16_1).f3))) w.heap.size (fun k_ => k_ ≠ gb231) u9 x9_1) := ⟨Kd.R_mono (Kd.R_far (p := ⟨gb231, 3, none⟩) (Kd.R_far (p := ⟨gb231, 2, none⟩) (Kd.R_far (p := ⟨gb231, 1, none⟩) (Kd.R_far (p := ⟨gb231, 0, none⟩) (Kd.R_mono HO_9.out (fun k_ hk => (⟨hk, hk⟩ : _ ∧ k_ ≠ gb231))) (fun _ hk => hk.2) (.int .i64 2)) (fun _ hk => hk.2) (.string ((rd_T42 l0 x16_1).f1))) (fun _ hk => hk.2) (.string t230)) (fun _ hk => hk.2) (.int .i64 ((rd_T42 l0 x16_1).f3))) (fun _ hk => hk.1)⟩
            have n1_ : Aside0 (((((w22.setCell ⟨gb231, 0, none⟩ (.int .i64 2)).setCell ⟨gb231, 1, none⟩ (.string ((rd_T42 l0 x16_1).f1))).setCell ⟨gb231, 2, none⟩ (.string t230)).setCell ⟨gb231, 3, none⟩ (.int .i64 ((rd_T42 l0 x16_1).f3))).heap[gb229]? = some (.cells #[.bool bq11, .string ((rd_T42 l0 x16_1).f1), .slice A228_2 ((rd_T42 l0 x16_1).f2).length c228_2, .int .i64 ((rd_T42 l0 x16_1).f3)] 42 (0, 0))) := ⟨blk_far (blk_far (blk_far (blk_far BK229.out NB229_231.out _) NB229_231.out _) NB229_231.out _) NB229_231.out _⟩
            have n2_ : Aside0 (((((w22.setCell ⟨gb231, 0, none⟩ (.int .i64 2)).setCell ⟨gb231, 1, none⟩ (.string ((rd_T42 l0 x16_1).f1))).setCell ⟨gb231, 2, none⟩ (.string t230)).setCell ⟨gb231, 3, none⟩ (.int .i64 ((rd_T42 l0 x16_1).f3))).heap[gb231]? = some (.cells #[.int .i64 2, .string ((rd_T42 l0 x16_1).f1), .string t230, .int .i64 ((rd_T42 l0 x16_1).f3)] 64 (0, 0))) := ⟨by refine blk_put (cs := #[.int .i64 2, .string ((rd_T42 l0 x16_1).f1), .string t230, .int .i64 0]) ?_ 3 _ rfl; refine blk_put (cs := #[.int .i64 2, .string ((rd_T42 l0 x16_1).f1), .string (⟨#[]⟩ : ByteArray), .int .i64 0]) ?_ 2 _ rfl; refine blk_put (cs := #[.int .i64 2, .string (⟨#[]⟩ : ByteArray), .string (⟨#[]⟩ : ByteArray), .int .i64 0]) ?_ 1 _ rfl; refine blk_put (cs := #[.int .i64 0, .string (⟨#[]⟩ : ByteArray), .string (⟨#[]⟩ : ByteArray), .int .i64 0]) ?_ 0 _ rfl; exact BK231.out⟩
            have n3_ : Aside0 (Below w.heap.size w ((((w22.setCell ⟨gb231, 0, none⟩ (.int .i64 2)).setCell ⟨gb231, 1, none⟩ (.string ((rd_T42 l0 x16_1).f1))).setCell ⟨gb231, 2, none⟩ (.string t230)).setCell ⟨gb231, 3, none⟩ (.int .i64 ((rd_T42 l0 x16_1).f3)))) := ⟨below_set (below_set (below_set (below_set HB.out GE231.out) GE231.out) GE231.out) GE231.out⟩
            clear HO_9 BK229 BK231 HB
            generalize ((((w22.setCell ⟨gb231, 0, none⟩ (.int .i64 2)).setCell ⟨gb231, 1, none⟩ (.string ((rd_T42 l0 x16_1).f1))).setCell ⟨gb231, 2, none⟩ (.string t230)).setCell ⟨gb231, 3, none⟩ (.int .i64 ((rd_T42 l0 x16_1).f3))) = w23 at n0_ n1_ n2_ n3_ ⊢
            have HO_9 := n0_
            have BK229 := n1_
            have BK231 := n2_
            have HB := n3_
            clear n0_ n1_ n2_ n3_
            have hcagb229_0 : w23.cell? ⟨gb229, 0, none⟩ = some (.bool bq11) := (blk_cell BK229.out 0).trans rfl
            have hcagb229_1 : w23.cell? ⟨gb229, 1, none⟩ = some (.string ((rd_T42 l0 x16_1).f1)) := (blk_cell BK229.out 1).trans rfl
            have hcagb229_2 : w23.cell? ⟨gb229, 2, none⟩ = some (.slice A228_2 ((rd_T42 l0 x16_1).f2).length c228_2) := (blk_cell BK229.out 2).trans rfl
            have hcagb229_3 : w23.cell? ⟨gb229, 3, none⟩ = some (.int .i64 ((rd_T42 l0 x16_1).f3)) := (blk_cell BK229.out 3).trans rfl
            have hfagb229_0 := blk_frozen BK229.out 0
            have hfagb229_1 := blk_frozen BK229.out 1
            have hfagb229_2 := blk_frozen BK229.out 2
            have hfagb229_3 := blk_frozen BK229.out 3
            have hcagb231_0 : w23.cell? ⟨gb231, 0, none⟩ = some (.int .i64 2) := (blk_cell BK231.out 0).trans rfl
            have hcagb231_1 : w23.cell? ⟨gb231, 1, none⟩ = some (.string ((rd_T42 l0 x16_1).f1)) := (blk_cell BK231.out 1).trans rfl
            have hcagb231_2 : w23.cell? ⟨gb231, 2, none⟩ = some (.string t230) := (blk_cell BK231.out 2).trans rfl
            have hcagb231_3 : w23.cell? ⟨gb231, 3, none⟩ = some (.int .i64 ((rd_T42 l0 x16_1).f3)) := (blk_cell BK231.out 3).trans rfl
            have hfagb231_0 := blk_frozen BK231.out 0
            have hfagb231_1 := blk_frozen BK231.out 1
            have hfagb231_2 := blk_frozen BK231.out 2
            have hfagb231_3 := blk_frozen BK231.out 3
            go_upto_if 31 with (fail)
            go_cut [] (fun wc => Aside0 (Kd.R k64 64 wc w.heap.size (fun k_ => k_ ≠ gb231) u9 x9_1) ∧ Aside0 (wc.heap[gb229]? = some (.cells #[.bool bq11, .string ((rd_T42 l0 x16_1).f1), .slice A228_2 ((rd_T42 l0 x16_1).f2).length c228_2, .int .i64 ((rd_T42 l0 x16_1).f3)] 42 (0, 0))) ∧ Aside0 (wc.heap[gb231]? = some (.cells #[.int .i64 (if bq11 = true then 3 else 2), .string ((rd_T42 l0 x16_1).f1), .string t230, .int .i64 ((rd_T42 l0 x16_1).f3)] 64 (0, 0))) ∧ Aside0 (Below w.heap.size w wc))
            case first =>
              cases bq11
              · go_wp2_with fail
                go_meet
                case rel => exact ⟨HO_9, BK229, BK231, HB⟩
              · go_wp2_with fail
                go_meet
                case rel => exact ⟨⟨Kd.R_mono (Kd.R_far (p := ⟨gb231, 0, none⟩) (Kd.R_mono HO_9.out (fun k_ hk => (⟨hk, hk⟩ : _ ∧ k_ ≠ gb231))) (fun _ hk => hk.2) (.int .i64 3)) (fun _ hk => hk.1)⟩, ⟨blk_far BK229.out NB229_231.out _⟩, ⟨blk_put (cs := #[.int .i64 2, .string ((rd_T42 l0 x16_1).f1), .string t230, .int .i64 ((rd_T42 l0 x16_1).f3)]) BK231.out 0 _ rfl⟩, ⟨below_set HB.out GE231.out⟩⟩
            case rest =>
              clear hcagb229_0 hfagb229_0 hcagb229_1 hfagb229_1 hcagb229_2 hfagb229_2 hcagb229_3 hfagb229_3 hcagb231_0 hfagb231_0 hcagb231_1 hfagb231_1 hcagb231_2 hfagb231_2 hcagb231_3 hfagb231_3
              clear HO_9 BK229 BK231 HB
              obtain ⟨HO_9, BK229, BK231, HB⟩ := hcut
              have hcbgb229_0 : wc.cell? ⟨gb229, 0, none⟩ = some (.bool bq11) := (blk_cell BK229.out 0).trans rfl
              have hcbgb229_1 : wc.cell? ⟨gb229, 1, none⟩ = some (.string ((rd_T42 l0 x16_1).f1)) := (blk_cell BK229.out 1).trans rfl
              have hcbgb229_2 : wc.cell? ⟨gb229, 2, none⟩ = some (.slice A228_2 ((rd_T42 l0 x16_1).f2).length c228_2) := (blk_cell BK229.out 2).trans rfl
              have hcbgb229_3 : wc.cell? ⟨gb229, 3, none⟩ = some (.int .i64 ((rd_T42 l0 x16_1).f3)) := (blk_cell BK229.out 3).trans rfl
              have hfbgb229_0 := blk_frozen BK229.out 0
              have hfbgb229_1 := blk_frozen BK229.out 1
              have hfbgb229_2 := blk_frozen BK229.out 2
              have hfbgb229_3 := blk_frozen BK229.out 3
              go_upto_region 8 with (fail)
              go_cut [39] (fun v39 wd => v39 = .bool (a3 && z11) ∧ wc = wd)
              case first =>
                cases a3
                · go_wp2_with fail
                  go_meet
                  case rel => exact ⟨rfl, rfl⟩
                · cases z11
                  · have hz0 : ((((rd_T42 l0 x16_1).f2).length : Int) == 0) = false := beq_eq_false_iff_ne.mpr (fun h => by have h2 := of_decide_eq_false NZ11.out.symm; omega)
                    go_wp2_with fail
                    go_meet
                    case rel => exact ⟨rfl, rfl⟩
                  · have hz0 : ((((rd_T42 l0 x16_1).f2).length : Int) == 0) = true := beq_iff_eq.mpr (by have h2 := of_decide_eq_true NZ11.out.symm; omega)
                    go_wp2_with fail
                    go_meet
                    case rel => exact ⟨rfl, rfl⟩
              case rest =>
                obtain ⟨rfl, rfl⟩ := hcut
                obtain ⟨p39, hp39⟩ : ∃ p : Bool, p = (a3 && z11) := ⟨_, rfl⟩
                rw [← hp39]
                have NP := Aside0.mk hp39
                clear hp39
                go_upto_if 39 with (fail)
                go_cut [] (fun wd => Aside0 (Kd.R k64 64 wd w.heap.size (fun k_ => k_ ≠ gb231) u9 x9_1) ∧ Aside0 (wd.heap[gb229]? = some (.cells #[.bool bq11, .string ((rd_T42 l0 x16_1).f1), .slice A228_2 ((rd_T42 l0 x16_1).f2).length c228_2, .int .i64 ((rd_T42 l0 x16_1).f3)] 42 (0, 0))) ∧ Aside0 (wd.heap[gb231]? = some (.cells #[.int .i64 (tkind bq11 a3 z11), .string ((rd_T42 l0 x16_1).f1), .string t230, .int .i64 ((rd_T42 l0 x16_1).f3)] 64 (0, 0))) ∧ Aside0 (Below w.heap.size w wd))
                case first =>
                  clear hcbgb229_0 hfbgb229_0 hcbgb229_1 hfbgb229_1 hcbgb229_2 hfbgb229_2 hcbgb229_3 hfbgb229_3
                  cases bq11
                  · have BK2 : Aside0 (wc.heap[gb231]? = some (.cells #[.int .i64 2, .string ((rd_T42 l0 x16_1).f1), .string t230, .int .i64 ((rd_T42 l0 x16_1).f3)] 64 (0, 0))) := ⟨BK231.out⟩
                    clear BK231
                    have BK231 := BK2
                    clear BK2
                    have hcdgb231_0 : wc.cell? ⟨gb231, 0, none⟩ = some (.int .i64 2) := (blk_cell BK231.out 0).trans rfl
                    have hcdgb231_1 : wc.cell? ⟨gb231, 1, none⟩ = some (.string ((rd_T42 l0 x16_1).f1)) := (blk_cell BK231.out 1).trans rfl
                    have hcdgb231_2 : wc.cell? ⟨gb231, 2, none⟩ = some (.string t230) := (blk_cell BK231.out 2).trans rfl
                    have hcdgb231_3 : wc.cell? ⟨gb231, 3, none⟩ = some (.int .i64 ((rd_T42 l0 x16_1).f3)) := (blk_cell BK231.out 3).trans rfl
                    have hfdgb231_0 := blk_frozen BK231.out 0
                    have hfdgb231_1 := blk_frozen BK231.out 1
                    have hfdgb231_2 := blk_frozen BK231.out 2
                    have hfdgb231_3 := blk_frozen BK231.out 3
                    cases p39
                    · have hk0 : tkind false a3 z11 = 2 := by unfold tkind; rw [← NP.out]; rfl
                      have NK0 := Aside0.mk hk0
                      clear hk0
                      go_wp2_with fail
                      go_meet
                      case rel => rw [NK0.out]; exact ⟨HO_9, BK229, BK231, HB⟩
                    · have hk0 : tkind false a3 z11 = 0 := by unfold tkind; rw [← NP.out]; rfl
                      have NK0 := Aside0.mk hk0
                      clear hk0
                      go_wp2_with fail
                      go_meet
                      case rel => rw [NK0.out]; exact ⟨⟨Kd.R_mono (Kd.R_far (p := ⟨gb231, 0, none⟩) (Kd.R_mono HO_9.out (fun k_ hk => (⟨hk, hk⟩ : _ ∧ k_ ≠ gb231))) (fun _ hk => hk.2) (.int .i64 0)) (fun _ hk => hk.1)⟩, ⟨blk_far BK229.out NB229_231.out _⟩, ⟨blk_put (cs := #[.int .i64 2, .string ((rd_T42 l0 x16_1).f1), .string t230, .int .i64 ((rd_T42 l0 x16_1).f3)]) BK231.out 0 _ rfl⟩, ⟨below_set HB.out GE231.out⟩⟩
                  · have BK2 : Aside0 (wc.heap[gb231]? = some (.cells #[.int .i64 3, .string ((rd_T42 l0 x16_1).f1), .string t230, .int .i64 ((rd_T42 l0 x16_1).f3)] 64 (0, 0))) := ⟨BK231.out⟩
                    clear BK231
                    have BK231 := BK2
                    clear BK2
                    have hcdgb231_0 : wc.cell? ⟨gb231, 0, none⟩ = some (.int .i64 3) := (blk_cell BK231.out 0).trans rfl
                    have hcdgb231_1 : wc.cell? ⟨gb231, 1, none⟩ = some (.string ((rd_T42 l0 x16_1).f1)) := (blk_cell BK231.out 1).trans rfl
                    have hcdgb231_2 : wc.cell? ⟨gb231, 2, none⟩ = some (.string t230) := (blk_cell BK231.out 2).trans rfl
                    have hcdgb231_3 : wc.cell? ⟨gb231, 3, none⟩ = some (.int .i64 ((rd_T42 l0 x16_1).f3)) := (blk_cell BK231.out 3).trans rfl
                    have hfdgb231_0 := blk_frozen BK231.out 0
                    have hfdgb231_1 := blk_frozen BK231.out 1
                    have hfdgb231_2 := blk_frozen BK231.out 2
                    have hfdgb231_3 := blk_frozen BK231.out 3
                    cases p39
                    · have hk0 : tkind true a3 z11 = 3 := by unfold tkind; rw [← NP.out]; rfl
                      have NK0 := Aside0.mk hk0
                      clear hk0
                      go_wp2_with fail
                      go_meet
                      case rel => rw [NK0.out]; exact ⟨HO_9, BK229, BK231, HB⟩
                    · have hk0 : tkind true a3 z11 = 1 := by unfold tkind; rw [← NP.out]; rfl
                      have NK0 := Aside0.mk hk0
                      clear hk0
                      go_wp2_with fail
                      go_meet
                      case rel => rw [NK0.out]; exact ⟨⟨Kd.R_mono (Kd.R_far (p := ⟨gb231, 0, none⟩) (Kd.R_mono HO_9.out (fun k_ hk => (⟨hk, hk⟩ : _ ∧ k_ ≠ gb231))) (fun _ hk => hk.2) (.int .i64 1)) (fun _ hk => hk.1)⟩, ⟨blk_far BK229.out NB229_231.out _⟩, ⟨blk_put (cs := #[.int .i64 3, .string ((rd_T42 l0 x16_1).f1), .string t230, .int .i64 ((rd_T42 l0 x16_1).f3)]) BK231.out 0 _ rfl⟩, ⟨below_set HB.out GE231.out⟩⟩
                case rest =>
                  clear HO_9 BK229 BK231 HB hcbgb229_0 hfbgb229_0 hcbgb229_1 hfbgb229_1 hcbgb229_2 hfbgb229_2 hcbgb229_3 hfbgb229_3
                  obtain ⟨HO_9, BK229, BK231, HB⟩ := hcut
                  obtain ⟨kk, hkk⟩ : ∃ kk : Int, kk = tkind bq11 a3 z11 := ⟨_, rfl⟩
                  rw [← hkk] at BK231
                  have hy2 := Ny232.out
                  rw [← hkk] at hy2
                  clear Ny232
                  have Ny232 := Aside0.mk hy2
                  clear hy2 hkk
                  have hcegb231_0 : wc.cell? ⟨gb231, 0, none⟩ = some (.int .i64 kk) := (blk_cell BK231.out 0).trans rfl
                  have hcegb231_1 : wc.cell? ⟨gb231, 1, none⟩ = some (.string ((rd_T42 l0 x16_1).f1)) := (blk_cell BK231.out 1).trans rfl
                  have hcegb231_2 : wc.cell? ⟨gb231, 2, none⟩ = some (.string t230) := (blk_cell BK231.out 2).trans rfl
                  have hcegb231_3 : wc.cell? ⟨gb231, 3, none⟩ = some (.int .i64 ((rd_T42 l0 x16_1).f3)) := (blk_cell BK231.out 3).trans rfl
                  have hfegb231_0 := blk_frozen BK231.out 0
                  have hfegb231_1 := blk_frozen BK231.out 1
                  have hfegb231_2 := blk_frozen BK231.out 2
                  have hfegb231_3 := blk_frozen BK231.out 3
                  go_wp2_with (first | ((with_reducible refine gate_builtin (b := .append) (xs := #[.tmp 44, .tmp 46]) rfl ?_); (try (refine gate_guard (by rfl) ?_; dsimp only)); at_builtin; refine Kd.R_append k64 (w0 := w) w.heap.size rfl (.tmp 44) (.tmp 46) 53 64 (.agg #[(.int .i64 0), (.string ⟨#[]⟩), (.string ⟨#[]⟩), (.int .i64 0)]) 48 rfl Tryz.underlying53 info64 rfl (by decide) (by omega) u9 x9_1 (⟨kk, (rd_T42 l0 x16_1).f1, t230, (rd_T42 l0 x16_1).f3⟩ : S64) [.int .i64 kk, .string ((rd_T42 l0 x16_1).f1), .string t230, .int .i64 ((rd_T42 l0 x16_1).f3)] (fun k_ => k_ ≠ gb231) (fun _ => False) rfl (by first | (go_simp; done) | (go_simp; rfl)) ?aP (fun _ hk => hk.elim) ?aF ?aO ?aB ?aS ?aL ?_; (case aP => exact k64_mkM _ _ _ (⟨kk, (rd_T42 l0 x16_1).f1, t230, (rd_T42 l0 x16_1).f3⟩ : S64)); (case aB => exact (Xb HB.out)); (case aF => exact (fun k_ hk => Kd.freshB (g := gb231) (o := .cells #[.int .i64 kk, .string ((rd_T42 l0 x16_1).f1), .string t230, .int .i64 ((rd_T42 l0 x16_1).f3)] 64 (0, 0)) (by (with_reducible repeat (first | refine blk_drewN ?_ _ | refine blk_drew ?_ | refine blk_alloc ?_ _)); exact BK231.out) k_ hk)); (case aO => exact (XR HO_9.out)); (case aS => exact (below_size (Xb HB.out))); (case aL => have := LMc15.out; omega); intro v233 w30 ho hb hg hat; rw [← Ny232.out] at ho; have n2_ := Aside0.mk (hb); have n3_ := Aside0.mk (ho); clear BK229; clear BK231; clear HB; clear HO_9; have HB := n2_; have HO234 := n3_; clear n2_ n3_; clear ho hb hg hat))
                  go_roundg k1
                  case measure => have := HK1.out; omega
                  case rel => exact ⟨(y232), (wrap64 (x16_1 + 1)), (by first | rfl | (simp; done) | (simp [*]; done)), H', ⟨by have := HK1.out; omega⟩, ⟨by (with_reducible repeat (first | apply Kd.R_alloc | apply Kd.R_drewN | apply Kd.R_drew)); exact Kd.R_mono HO234.out (fun _ hk => trivial)⟩, ⟨by repeat (first | (with_reducible first | exact HB.out | apply below_alloc | apply pw_below_drewN | apply below_drew1) | exact HB.out)⟩⟩
          · rw [if_neg c9] at H
            exact absurd H (by simp)
        · rw [if_neg c8] at H
          exact absurd H (by simp)
      · rw [if_neg c7] at H
        have c7b0 : decide (x16_1 < (l0.length : Int)) = false := decide_eq_false c7
        clear c7
        obtain rfl := Option.some.inj H
        go_wp2
        go_ret
        exact ⟨_, by first | rfl | (simp [errW_none, errW_some] <;> rfl) | (simp [*, errW_none, errW_some] <;> rfl), by (with_reducible repeat (first | apply Kd.R_alloc | apply Kd.R_drewN | apply Kd.R_drew)); exact HO_9.out, by repeat (first | (with_reducible first | exact HB.out | apply below_alloc | apply pw_below_drewN | apply below_drew1) | exact HB.out)⟩
end Go.Proofs.YtnoolgbbpekomaaGreatDoor.T
