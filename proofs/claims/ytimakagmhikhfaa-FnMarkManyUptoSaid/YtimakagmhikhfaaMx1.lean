-- made by stubprint.py
import Derived.Test.YtimakagmhikhfaaMr
namespace Go.Proofs.Ytimakagmhikhfaa.M
open Go.RowKit Go.Proofs.YtimakagmhikhfaaW.PrintWords Go.Proofs.YtimakagmhikhfaaW.PrintLast Go.Proofs.YtimakagmhikhfaaW.PrintMore
attribute [local go_sem] max2_int min2_int max_two min_two max_three min_three max_four min_four   -- for this text's walks alone
set_option linter.unusedVariables false
set_option linter.unusedSimpArgs false

/-! ### laws_zzFits2: function 21 -/
def laws_zzFits2.f (a0_0 : Int) (a0_1 : Int) (l0_2 : List Int) : Option (Bool) := if (l0_2.length : Int) > 2147483647 then (some false) else (some true)
set_option maxHeartbeats 8000000 in
set_option maxRecDepth 100000 in
theorem laws_zzFits2.calls (a0_0 : Int) (a0_1 : Int) (A0_2 : Option Addr) (c0_2 : Nat) (l0_2 : List Int) (r : Bool) (w : World) (hr0_2 : Kd.C (Kd.int .i64) w A0_2 l0_2.length l0_2) (hc0_2 : l0_2.length ≤ c0_2) (h : laws_zzFits2.f a0_0 a0_1 l0_2 = some r) :
    Calls Try.prog 21 #[.agg #[.int .i64 a0_0, .int .i64 a0_1, .slice A0_2 l0_2.length c0_2]] w fun e w' => e = .returned (.bool r) ∧ Below w.heap.size w w' := by
  have hu31 := Try.underlying31
  have HR0_2 := Aside0.mk hr0_2
  have HC0_2 := Aside0.mk hc0_2
  clear hr0_2 hc0_2
  have HB := Aside0.mk (Below.refl w.heap.size w)
  have H : (if (l0_2.length : Int) > 2147483647 then (some false) else (some true)) = some r := h
  clear h
  by_cases c2 : (l0_2.length : Int) > 2147483647
  · rw [if_pos c2] at H
    have c2b0 : decide (2147483647 < (l0_2.length : Int)) = true := decide_eq_true c2
    have c2b1 : decide (2147483647 < l0_2.length) = true := decide_eq_true (by omega)
    clear c2
    obtain rfl := Option.some.inj H
    go_enter Try.func21, Try.ntmps21
    go_wp2_with (first | ((with_reducible refine gate_dst (N := 1) rfl ?_); refine box_event ?hg (N := 1) ?hd (cs := #[.int .i64 a0_0, .int .i64 a0_1, .slice A0_2 l0_2.length c0_2]) (t := 31) ?hr ?_; (case hd => rfl); (case hg => rfl); (case hr => first | (go_simp; done) | (go_simp; rfl)); intro gb101 hg w3 hbox hb; have n0_ := Aside0.mk (below_step (by repeat (first | (with_reducible first | exact HB.out | apply below_alloc | apply pw_below_drewN | apply below_drew1) | exact HB.out)) hb); have n1_ := Aside0.mk (hbox); have n2_ := Aside0.mk ((by rw [hg]; exact (below_size (by repeat (first | (with_reducible first | exact HB.out | apply below_alloc | apply pw_below_drewN | apply below_drew1) | exact HB.out))) : w.heap.size ≤ gb101)); have n3_ := Aside0.mk ((by rw [hg]; exact (below_size (by repeat (first | (with_reducible first | exact HB.out | apply below_alloc | apply pw_below_drewN | apply below_drew1) | exact HB.out))) : w.heap.size ≤ gb101)); clear HB; have HB := n0_; have BK101 := n1_; have GW101 := n2_; have GE101 := n3_; clear n0_ n1_ n2_ n3_; clear hb hbox hg; have hcz4_0 : w3.cell? ⟨gb101, 0, none⟩ = some (.int .i64 a0_0) := (blk_cell BK101.out 0).trans rfl; have hcz4_1 : w3.cell? ⟨gb101, 1, none⟩ = some (.int .i64 a0_1) := (blk_cell BK101.out 1).trans rfl; have hcz4_2 : w3.cell? ⟨gb101, 2, none⟩ = some (.slice A0_2 l0_2.length c0_2) := (blk_cell BK101.out 2).trans rfl; have hfz4_0 := blk_frozen BK101.out 0; have hfz4_1 := blk_frozen BK101.out 1; have hfz4_2 := blk_frozen BK101.out 2))
    go_ret
    exact ⟨by first | rfl | (simp [errW_none, errW_some] <;> rfl) | (simp [*, errW_none, errW_some] <;> rfl), by repeat (first | (with_reducible first | exact HB.out | apply below_alloc | apply pw_below_drewN | apply below_drew1 | refine below_set ?_ GE101.out) | exact HB.out)⟩
  · rw [if_neg c2] at H
    have c2b0 : decide (2147483647 < (l0_2.length : Int)) = false := decide_eq_false c2
    have c2b1 : decide (2147483647 < l0_2.length) = false := decide_eq_false (by omega)
    clear c2
    obtain rfl := Option.some.inj H
    go_enter Try.func21, Try.ntmps21
    go_wp2_with (first | ((with_reducible refine gate_dst (N := 1) rfl ?_); refine box_event ?hg (N := 1) ?hd (cs := #[.int .i64 a0_0, .int .i64 a0_1, .slice A0_2 l0_2.length c0_2]) (t := 31) ?hr ?_; (case hd => rfl); (case hg => rfl); (case hr => first | (go_simp; done) | (go_simp; rfl)); intro gb101 hg w5 hbox hb; have n0_ := Aside0.mk (below_step (by repeat (first | (with_reducible first | exact HB.out | apply below_alloc | apply pw_below_drewN | apply below_drew1) | exact HB.out)) hb); have n1_ := Aside0.mk (hbox); have n2_ := Aside0.mk ((by rw [hg]; exact (below_size (by repeat (first | (with_reducible first | exact HB.out | apply below_alloc | apply pw_below_drewN | apply below_drew1) | exact HB.out))) : w.heap.size ≤ gb101)); have n3_ := Aside0.mk ((by rw [hg]; exact (below_size (by repeat (first | (with_reducible first | exact HB.out | apply below_alloc | apply pw_below_drewN | apply below_drew1) | exact HB.out))) : w.heap.size ≤ gb101)); clear HB; have HB := n0_; have BK101 := n1_; have GW101 := n2_; have GE101 := n3_; clear n0_ n1_ n2_ n3_; clear hb hbox hg; have hcz6_0 : w5.cell? ⟨gb101, 0, none⟩ = some (.int .i64 a0_0) := (blk_cell BK101.out 0).trans rfl; have hcz6_1 : w5.cell? ⟨gb101, 1, none⟩ = some (.int .i64 a0_1) := (blk_cell BK101.out 1).trans rfl; have hcz6_2 : w5.cell? ⟨gb101, 2, none⟩ = some (.slice A0_2 l0_2.length c0_2) := (blk_cell BK101.out 2).trans rfl; have hfz6_0 := blk_frozen BK101.out 0; have hfz6_1 := blk_frozen BK101.out 1; have hfz6_2 := blk_frozen BK101.out 2))
    go_ret
    exact ⟨by first | rfl | (simp [errW_none, errW_some] <;> rfl) | (simp [*, errW_none, errW_some] <;> rfl), by repeat (first | (with_reducible first | exact HB.out | apply below_alloc | apply pw_below_drewN | apply below_drew1 | refine below_set ?_ GE101.out) | exact HB.out)⟩

/-! ### laws_zzFits1: function 11 -/
def laws_zzFits1.l0 : Nat → List (S31) → Int → Int → Option (Bool)
  | 0, _, _, _ => none
  | k + 1, x8, x9, x10 => if x10 < x9 then (if 0 ≤ x10 then (if x10 < (x8.length : Int) then ((laws_zzFits2.f ((rd_T31 x8 x10).f0) ((rd_T31 x8 x10).f1) ((rd_T31 x8 x10).f2)).bind fun t104 => (if t104 = true then (laws_zzFits1.l0 k x8 x9 (wrap64 (x10 + 1))) else (some false))) else (none)) else (none)) else (some true)
def laws_zzFits1.f (k : Nat) (l0 : List (S31)) : Option (Bool) := if (l0.length : Int) > 2147483647 then (some false) else (laws_zzFits1.l0 k l0 (l0.length : Int) 0)
theorem laws_zzFits1.mono_l : ∀ k, (∀ y0 y1 y2, LeO (laws_zzFits1.l0 k y0 y1 y2) (laws_zzFits1.l0 (k + 1) y0 y1 y2))
  | 0 => fun _ _ _ r h => by simp [laws_zzFits1.l0] at h
  | k + 1 => by
    have ih0 := laws_zzFits1.mono_l k
    · intro y0 y1 y2
      unfold laws_zzFits1.l0
      repeat' first
      | (with_reducible exact ih0 _ _ _)
      | (with_reducible exact LeO.refl _)
      | (with_reducible exact LeO.none _)
      | (with_reducible refine LeO.ite ?_ ?_)
      | (with_reducible refine LeO.bind ?_ (fun _ => ?_))
      | exact ih0 _ _ _
      | exact LeO.none _
      | refine LeO.ite ?_ ?_
      | refine LeO.bind ?_ (fun _ => ?_)
theorem laws_zzFits1.mono : ∀ a0 k, LeO (laws_zzFits1.f k a0) (laws_zzFits1.f (k + 1) a0) := by
  intro a0 k
  have ih0 := laws_zzFits1.mono_l k
  unfold laws_zzFits1.f
  repeat' first
      | (with_reducible exact ih0 _ _ _)
      | (with_reducible exact LeO.refl _)
      | (with_reducible exact LeO.none _)
      | (with_reducible refine LeO.ite ?_ ?_)
      | (with_reducible refine LeO.bind ?_ (fun _ => ?_))
      | exact ih0 _ _ _
      | exact LeO.none _
      | refine LeO.ite ?_ ?_
      | refine LeO.bind ?_ (fun _ => ?_)
set_option maxHeartbeats 8000000 in
set_option maxRecDepth 100000 in
theorem laws_zzFits1.calls (k : Nat) (A0 : Option Addr) (c0 : Nat) (l0 : List (S31)) (r : Bool) (w : World) (hr0 : Kd.C k31 w A0 l0.length l0) (hc0 : l0.length ≤ c0) (h : laws_zzFits1.f k l0 = some r) :
    Calls Try.prog 11 #[.slice A0 l0.length c0] w fun e w' => e = .returned (.bool r) ∧ Below w.heap.size w w' := by
  have hu31 := Try.underlying31
  have HR0 := Aside0.mk hr0
  have HC0 := Aside0.mk hc0
  clear hr0 hc0
  have HB := Aside0.mk (Below.refl w.heap.size w)
  have H : (if (l0.length : Int) > 2147483647 then (some false) else (laws_zzFits1.l0 k l0 (l0.length : Int) 0)) = some r := h
  clear h
  by_cases c2 : (l0.length : Int) > 2147483647
  · rw [if_pos c2] at H
    have c2b0 : decide (2147483647 < (l0.length : Int)) = true := decide_eq_true c2
    have c2b1 : decide (2147483647 < l0.length) = true := decide_eq_true (by omega)
    clear c2
    obtain rfl := Option.some.inj H
    go_enter Try.func11, Try.ntmps11
    go_wp2
    go_ret
    exact ⟨by first | rfl | (simp [errW_none, errW_some] <;> rfl) | (simp [*, errW_none, errW_some] <;> rfl), by repeat (first | (with_reducible first | exact HB.out | apply below_alloc | apply pw_below_drewN | apply below_drew1) | exact HB.out)⟩
  · rw [if_neg c2] at H
    have c2b0 : decide (2147483647 < (l0.length : Int)) = false := decide_eq_false c2
    have c2b1 : decide (2147483647 < l0.length) = false := decide_eq_false (by omega)
    clear c2
    have H' := Aside0.mk H
    clear H
    go_enter Try.func11, Try.ntmps11
    go_wp2
    go_loopg [10] k (fun kq v10 w' => ∃ (x10_1 : Int), v10 = .int .i64 x10_1 ∧ Aside0 (laws_zzFits1.l0 kq l0 (l0.length : Int) x10_1 = some r) ∧ Aside0 (kq ≤ k) ∧ Aside0 (Below w.heap.size w w'))
    case atStart => exact ⟨(0), (by first | rfl | (simp; done) | (simp [*]; done)), H', ⟨Nat.le_refl _⟩, ⟨by repeat (first | (with_reducible first | exact HB.out | apply below_alloc | apply pw_below_drewN | apply below_drew1) | exact HB.out)⟩⟩
    case round =>
      clear H'
      try clear c1
      try clear c2
      try clear c2b0
      try clear c2b1
      try clear p2
      obtain ⟨x10_1, rfl, HA, HK1, HB⟩ := hrel
      cases gk with
      | zero => exact absurd HA.out (by simp [laws_zzFits1.l0])
      | succ k1 =>
        have H := HA.out
        clear HA
        simp only [laws_zzFits1.l0] at H
        by_cases c3 : x10_1 < (l0.length : Int)
        · rw [if_pos c3] at H
          have c3b0 : decide (x10_1 < (l0.length : Int)) = true := decide_eq_true c3
          clear c3
          by_cases c4 : 0 ≤ x10_1
          · rw [if_pos c4] at H
            have c4b0 : decide (0 ≤ x10_1) = true := decide_eq_true c4
            clear c4
            by_cases c5 : x10_1 < (l0.length : Int)
            · rw [if_pos c5] at H
              have c5b0 : decide (x10_1 < (l0.length : Int)) = true := decide_eq_true c5
              clear c5
              replace H := Option.bind_eq_some_iff.mp H
              obtain ⟨t104, A60, H⟩ := H
              replace H : (if t104 = true then (laws_zzFits1.l0 k1 l0 (l0.length : Int) (wrap64 (x10_1 + 1))) else (some false)) = some r := H
              have A6 := Aside0.mk A60
              clear A60
              by_cases c7 : t104 = true
              · subst c7
                have H1 : (laws_zzFits1.l0 k1 l0 (l0.length : Int) (wrap64 (x10_1 + 1))) = some r := by rw [if_pos rfl] at H; exact H
                clear H
                have H := H1
                clear H1
                have H' := Aside0.mk H
                clear H
                have p102 : 0 ≤ (x10_1 : Int) := of_decide_eq_true (by first | (with_reducible assumption) | assumption)
                have q102 : x10_1 < (l0.length : Int) := of_decide_eq_true (by first | (with_reducible assumption) | assumption)
                obtain ⟨ad102, A102_2, c102_2, e102, hx102_0, hx102_1, hx102_2, hl102_2, hi102_2⟩ := at_T31 HR0.out x10_1 p102 q102
                cases e102
                replace hx102_0 := (HB.out.cell (World.block_lt_of_cell? w _ hx102_0)).trans hx102_0
                replace hx102_1 := (HB.out.cell (World.block_lt_of_cell? w _ hx102_1)).trans hx102_1
                replace hx102_2 := (HB.out.cell (World.block_lt_of_cell? w _ hx102_2)).trans hx102_2
                have HR102_2 := Aside0.mk hi102_2
                have HC102_2 := Aside0.mk hl102_2
                clear hi102_2 hl102_2
                replace p102 := eq_true p102
                replace q102 := eq_true q102
                go_wp2_with (first | ((with_reducible refine gate_dst (N := 4) rfl ?_); refine box_event ?hg (N := 4) ?hd (cs := #[.int .i64 0, .int .i64 0, .slice none 0 0]) (t := 31) ?hr ?_; (case hd => rfl); (case hg => rfl); (case hr => first | (go_simp; done) | (go_simp; rfl)); intro gb103 hg w8 hbox hb; have n0_ := Aside0.mk (below_step (by repeat (first | (with_reducible first | exact HB.out | apply below_alloc | apply pw_below_drewN | apply below_drew1) | exact HB.out)) hb); have n1_ := Aside0.mk (hbox); have n2_ := Aside0.mk ((by rw [hg]; exact (below_size (by repeat (first | (with_reducible first | exact HB.out | apply below_alloc | apply pw_below_drewN | apply below_drew1) | exact HB.out))) : w.heap.size ≤ gb103)); have n3_ := Aside0.mk ((by rw [hg]; exact (below_size (by repeat (first | (with_reducible first | exact HB.out | apply below_alloc | apply pw_below_drewN | apply below_drew1) | exact HB.out))) : w.heap.size ≤ gb103)); clear HB; have HB := n0_; have BK103 := n1_; have GW103 := n2_; have GE103 := n3_; clear n0_ n1_ n2_ n3_; clear hb hbox hg; have hcz9_0 : w8.cell? ⟨gb103, 0, none⟩ = some (.int .i64 0) := (blk_cell BK103.out 0).trans rfl; have hcz9_1 : w8.cell? ⟨gb103, 1, none⟩ = some (.int .i64 0) := (blk_cell BK103.out 1).trans rfl; have hcz9_2 : w8.cell? ⟨gb103, 2, none⟩ = some (.slice none 0 0) := (blk_cell BK103.out 2).trans rfl; have hfz9_0 := blk_frozen BK103.out 0; have hfz9_1 := blk_frozen BK103.out 1; have hfz9_2 := blk_frozen BK103.out 2) | ((with_reducible refine gate_callee (f := 21) rfl ?_); refine goesL_ (some 15) rfl rfl Try.func21 (by kernel_rfl) rfl #[.agg #[.int .i64 ((rd_T31 l0 x10_1).f0), .int .i64 ((rd_T31 l0 x10_1).f1), .slice A102_2 ((rd_T31 l0 x10_1).f2).length c102_2]] rfl (by (try simp only [List.map_toArray, List.map_cons, List.map_nil]); first | done | rfl | (simp only [List.length_drop, List.length_take]; rfl)) ?_; (with_reducible refine (laws_zzFits2.calls ((rd_T31 l0 x10_1).f0) ((rd_T31 l0 x10_1).f1) _ _ ((rd_T31 l0 x10_1).f2) true _ ?side1 ?side2 A6.out).mono ?_); (case side1 => exact Kd.C_below HR102_2.out (by repeat (first | (with_reducible first | exact HB.out | apply below_alloc | apply pw_below_drewN | apply below_drew1 | refine below_set ?_ GE103.out) | exact HB.out))); (case side2 => exact HC102_2.out); rintro e w10 ⟨rfl, hb⟩; refine ⟨_, rfl, ?_⟩; have n0_ := Aside0.mk (blk_below (g := gb103) (o := .cells #[.int .i64 ((rd_T31 l0 x10_1).f0), .int .i64 ((rd_T31 l0 x10_1).f1), .slice A102_2 ((rd_T31 l0 x10_1).f2).length c102_2] 31 (0, 0)) (by (with_reducible repeat (first | refine blk_drewN ?_ _ | refine blk_drew ?_ | refine blk_alloc ?_ _)); refine blk_put (cs := #[.int .i64 ((rd_T31 l0 x10_1).f0), .int .i64 ((rd_T31 l0 x10_1).f1), .slice none 0 0]) ?_ 2 _ rfl; (with_reducible repeat (first | refine blk_drewN ?_ _ | refine blk_drew ?_ | refine blk_alloc ?_ _)); refine blk_put (cs := #[.int .i64 ((rd_T31 l0 x10_1).f0), .int .i64 0, .slice none 0 0]) ?_ 1 _ rfl; (with_reducible repeat (first | refine blk_drewN ?_ _ | refine blk_drew ?_ | refine blk_alloc ?_ _)); refine blk_put (cs := #[.int .i64 0, .int .i64 0, .slice none 0 0]) ?_ 0 _ rfl; (with_reducible repeat (first | refine blk_drewN ?_ _ | refine blk_drew ?_ | refine blk_alloc ?_ _)); exact BK103.out) hb); have n1_ := Aside0.mk (below_step (by repeat (first | (with_reducible first | exact HB.out | apply below_alloc | apply pw_below_drewN | apply below_drew1 | refine below_set ?_ GE103.out) | exact HB.out)) hb); clear BK103; clear HB; have BK103 := n0_; have HB := n1_; clear n0_ n1_; (try clear hb); (try clear hb2); (try clear hk); (try clear hi)))
                go_roundg k1
                case measure => have := HK1.out; omega
                case rel => exact ⟨(wrap64 (x10_1 + 1)), (by first | rfl | (simp; done) | (simp [*]; done)), H', ⟨by have := HK1.out; omega⟩, ⟨by repeat (first | (with_reducible first | exact HB.out | apply below_alloc | apply pw_below_drewN | apply below_drew1 | refine below_set ?_ GE103.out) | exact HB.out)⟩⟩
              · replace c7 := Bool.eq_false_iff.mpr c7
                subst c7
                have H1 : (some false) = some r := by rw [if_neg (show ¬ (false = true) by decide)] at H; exact H
                clear H
                have H := H1
                clear H1
                obtain rfl := Option.some.inj H
                have p102 : 0 ≤ (x10_1 : Int) := of_decide_eq_true (by first | (with_reducible assumption) | assumption)
                have q102 : x10_1 < (l0.length : Int) := of_decide_eq_true (by first | (with_reducible assumption) | assumption)
                obtain ⟨ad102, A102_2, c102_2, e102, hx102_0, hx102_1, hx102_2, hl102_2, hi102_2⟩ := at_T31 HR0.out x10_1 p102 q102
                cases e102
                replace hx102_0 := (HB.out.cell (World.block_lt_of_cell? w _ hx102_0)).trans hx102_0
                replace hx102_1 := (HB.out.cell (World.block_lt_of_cell? w _ hx102_1)).trans hx102_1
                replace hx102_2 := (HB.out.cell (World.block_lt_of_cell? w _ hx102_2)).trans hx102_2
                have HR102_2 := Aside0.mk hi102_2
                have HC102_2 := Aside0.mk hl102_2
                clear hi102_2 hl102_2
                replace p102 := eq_true p102
                replace q102 := eq_true q102
                go_wp2_with (first | ((with_reducible refine gate_dst (N := 4) rfl ?_); refine box_event ?hg (N := 4) ?hd (cs := #[.int .i64 0, .int .i64 0, .slice none 0 0]) (t := 31) ?hr ?_; (case hd => rfl); (case hg => rfl); (case hr => first | (go_simp; done) | (go_simp; rfl)); intro gb103 hg w11 hbox hb; have n0_ := Aside0.mk (below_step (by repeat (first | (with_reducible first | exact HB.out | apply below_alloc | apply pw_below_drewN | apply below_drew1) | exact HB.out)) hb); have n1_ := Aside0.mk (hbox); have n2_ := Aside0.mk ((by rw [hg]; exact (below_size (by repeat (first | (with_reducible first | exact HB.out | apply below_alloc | apply pw_below_drewN | apply below_drew1) | exact HB.out))) : w.heap.size ≤ gb103)); have n3_ := Aside0.mk ((by rw [hg]; exact (below_size (by repeat (first | (with_reducible first | exact HB.out | apply below_alloc | apply pw_below_drewN | apply below_drew1) | exact HB.out))) : w.heap.size ≤ gb103)); clear HB; have HB := n0_; have BK103 := n1_; have GW103 := n2_; have GE103 := n3_; clear n0_ n1_ n2_ n3_; clear hb hbox hg; have hcz12_0 : w11.cell? ⟨gb103, 0, none⟩ = some (.int .i64 0) := (blk_cell BK103.out 0).trans rfl; have hcz12_1 : w11.cell? ⟨gb103, 1, none⟩ = some (.int .i64 0) := (blk_cell BK103.out 1).trans rfl; have hcz12_2 : w11.cell? ⟨gb103, 2, none⟩ = some (.slice none 0 0) := (blk_cell BK103.out 2).trans rfl; have hfz12_0 := blk_frozen BK103.out 0; have hfz12_1 := blk_frozen BK103.out 1; have hfz12_2 := blk_frozen BK103.out 2) | ((with_reducible refine gate_callee (f := 21) rfl ?_); refine goesL_ (some 15) rfl rfl Try.func21 (by kernel_rfl) rfl #[.agg #[.int .i64 ((rd_T31 l0 x10_1).f0), .int .i64 ((rd_T31 l0 x10_1).f1), .slice A102_2 ((rd_T31 l0 x10_1).f2).length c102_2]] rfl (by (try simp only [List.map_toArray, List.map_cons, List.map_nil]); first | done | rfl | (simp only [List.length_drop, List.length_take]; rfl)) ?_; (with_reducible refine (laws_zzFits2.calls ((rd_T31 l0 x10_1).f0) ((rd_T31 l0 x10_1).f1) _ _ ((rd_T31 l0 x10_1).f2) false _ ?side1 ?side2 A6.out).mono ?_); (case side1 => exact Kd.C_below HR102_2.out (by repeat (first | (with_reducible first | exact HB.out | apply below_alloc | apply pw_below_drewN | apply below_drew1 | refine below_set ?_ GE103.out) | exact HB.out))); (case side2 => exact HC102_2.out); rintro e w13 ⟨rfl, hb⟩; refine ⟨_, rfl, ?_⟩; have n0_ := Aside0.mk (blk_below (g := gb103) (o := .cells #[.int .i64 ((rd_T31 l0 x10_1).f0), .int .i64 ((rd_T31 l0 x10_1).f1), .slice A102_2 ((rd_T31 l0 x10_1).f2).length c102_2] 31 (0, 0)) (by (with_reducible repeat (first | refine blk_drewN ?_ _ | refine blk_drew ?_ | refine blk_alloc ?_ _)); refine blk_put (cs := #[.int .i64 ((rd_T31 l0 x10_1).f0), .int .i64 ((rd_T31 l0 x10_1).f1), .slice none 0 0]) ?_ 2 _ rfl; (with_reducible repeat (first | refine blk_drewN ?_ _ | refine blk_drew ?_ | refine blk_alloc ?_ _)); refine blk_put (cs := #[.int .i64 ((rd_T31 l0 x10_1).f0), .int .i64 0, .slice none 0 0]) ?_ 1 _ rfl; (with_reducible repeat (first | refine blk_drewN ?_ _ | refine blk_drew ?_ | refine blk_alloc ?_ _)); refine blk_put (cs := #[.int .i64 0, .int .i64 0, .slice none 0 0]) ?_ 0 _ rfl; (with_reducible repeat (first | refine blk_drewN ?_ _ | refine blk_drew ?_ | refine blk_alloc ?_ _)); exact BK103.out) hb); have n1_ := Aside0.mk (below_step (by repeat (first | (with_reducible first | exact HB.out | apply below_alloc | apply pw_below_drewN | apply below_drew1 | refine below_set ?_ GE103.out) | exact HB.out)) hb); clear BK103; clear HB; have BK103 := n0_; have HB := n1_; clear n0_ n1_; (try clear hb); (try clear hb2); (try clear hk); (try clear hi)))
                go_ret
                exact ⟨by first | rfl | (simp [errW_none, errW_some] <;> rfl) | (simp [*, errW_none, errW_some] <;> rfl), by repeat (first | (with_reducible first | exact HB.out | apply below_alloc | apply pw_below_drewN | apply below_drew1 | refine below_set ?_ GE103.out) | exact HB.out)⟩
            · rw [if_neg c5] at H
              exact absurd H (by simp)
          · rw [if_neg c4] at H
            exact absurd H (by simp)
        · rw [if_neg c3] at H
          have c3b0 : decide (x10_1 < (l0.length : Int)) = false := decide_eq_false c3
          clear c3
          obtain rfl := Option.some.inj H
          go_wp2
          go_ret
          exact ⟨by first | rfl | (simp [errW_none, errW_some] <;> rfl) | (simp [*, errW_none, errW_some] <;> rfl), by repeat (first | (with_reducible first | exact HB.out | apply below_alloc | apply pw_below_drewN | apply below_drew1) | exact HB.out)⟩

/-! ### spec_Within: function 20 -/
def spec_Within.f (a0 : Int) (a1 : Int) (a2 : Int) : Option (Bool) := if a0 ≥ a1 then (some (decide (a0 ≤ a2))) else (some false)
set_option maxHeartbeats 8000000 in
set_option maxRecDepth 100000 in
theorem spec_Within.calls (a0 : Int) (a1 : Int) (a2 : Int) (r : Bool) (w : World) (h : spec_Within.f a0 a1 a2 = some r) :
    Calls Try.prog 20 #[.int .i64 a0, .int .i64 a1, .int .i64 a2] w fun e w' => e = .returned (.bool r) ∧ Drawn0 w w' := by
  have H : (if a0 ≥ a1 then (some (decide (a0 ≤ a2))) else (some false)) = some r := h
  clear h
  by_cases c4 : a0 ≥ a1
  · rw [if_pos c4] at H
    have c4b0 : decide (a1 ≤ a0) = true := decide_eq_true c4
    clear c4
    obtain rfl := Option.some.inj H
    go_enter Try.func20, Try.ntmps20
    go_wp2
    go_ret
    exact ⟨by first | rfl | (simp; done) | (simp [*]; done), by repeat (first | exact Drawn0.refl _ | apply Drawn0.step)⟩
  · rw [if_neg c4] at H
    have c4b0 : decide (a1 ≤ a0) = false := decide_eq_false c4
    clear c4
    obtain rfl := Option.some.inj H
    go_enter Try.func20, Try.ntmps20
    go_wp2
    go_ret
    exact ⟨by first | rfl | (simp; done) | (simp [*]; done), by repeat (first | exact Drawn0.refl _ | apply Drawn0.step)⟩

-- NOT PRINTED: function 36 (spec_water_add)

-- NOT PRINTED: function 22 (spec_water_begin)

/-- A state of type 47 at block g of W; what its slices lead to came in by w0. -/
def IsS47 (w0 W : World) (g : Nat) (f0 : Int) (f1 : Int) (f2 : List (S73)) : Prop := ∃ A2 c2, W.heap[g]? = some (.cells #[.int .i64 f0, .int .i64 f1, .slice A2 f2.length c2] 47 (0, 0)) ∧ w0.heap.size ≤ g ∧ Kd.C k73 w0 A2 f2.length f2
theorem IsS47.grown {w0 W : World} {g : Nat} {f0 : Int} {f1 : Int} {f2 : List (S73)} {W1 : World} {row : Option Nat} (h : IsS47 w0 W g f0 f1 f2) (hw : W.grownBy W1 row) (hne : some g ≠ row) : IsS47 w0 W1 g f0 f1 f2 := by
  obtain ⟨A2, c2, hb, hg, hr2⟩ := h
  exact ⟨A2, c2, blk_grown hb hw hne, hg, hr2⟩
theorem IsS47.own_neN {w0 W : World} {g : Nat} {f0 : Int} {f1 : Int} {f2 : List (S73)} {α : Type} {d : Kd α} {e : Nat} {base : Nat} {ok : Nat → Prop} {v : Value} {xs : List α} (h : IsS47 w0 W g f0 f1 f2) (ho : Kd.N d e W base ok v xs) (ht : e ≠ 47) : some g ≠ v.ownBlock := by
  obtain ⟨A2, c2, hb, hg, hr2⟩ := h
  exact Kd.N_ne ho hb ht
theorem IsS47.fresh {w0 W : World} {g : Nat} {f0 : Int} {f1 : Int} {f2 : List (S73)} (h : IsS47 w0 W g f0 f1 f2) : ∀ k, W.heap.size ≤ k → k ≠ g := by
  obtain ⟨A2, c2, hb, hg, hr2⟩ := h
  exact Kd.freshB hb
theorem IsS47.kept {w0 W : World} {g : Nat} {f0 : Int} {f1 : Int} {f2 : List (S73)} {W1 : World} {S : Nat → Prop} (h : IsS47 w0 W g f0 f1 f2) (hk : Kept W W1 S) (hne : ¬ S g) : IsS47 w0 W1 g f0 f1 f2 := by
  obtain ⟨A2, c2, hb, hg, hr2⟩ := h
  exact ⟨A2, c2, blk_kept hb hk hne, hg, hr2⟩
theorem IsS47.below {w0 W : World} {g : Nat} {f0 : Int} {f1 : Int} {f2 : List (S73)} {W1 : World} (h : IsS47 w0 W g f0 f1 f2) (hw : Below W.heap.size W W1) : IsS47 w0 W1 g f0 f1 f2 := h.grown (grown_of_below hw none) (by simp)
theorem IsS47.alloc {w0 W : World} {g : Nat} {f0 : Int} {f1 : Int} {f2 : List (S73)} (h : IsS47 w0 W g f0 f1 f2) (o : Obj) : IsS47 w0 (W.alloc o) g f0 f1 f2 := h.below (below_alloc (Below.refl _ _) o)
theorem IsS47.drewN {w0 W : World} {g : Nat} {f0 : Int} {f1 : Int} {f2 : List (S73)} (h : IsS47 w0 W g f0 f1 f2) (m : Nat) : IsS47 w0 (W.drewN m) g f0 f1 f2 := h
theorem IsS47.drew {w0 W : World} {g : Nat} {f0 : Int} {f1 : Int} {f2 : List (S73)} (h : IsS47 w0 W g f0 f1 f2) : IsS47 w0 W.drew g f0 f1 f2 := h
theorem IsS47.at_ {w0 W : World} {g : Nat} {f0 : Int} {f1 : Int} {f2 : List (S73)} {w' : World} {m : Nat} (hq : W.drewN m = w') (h : IsS47 w0 W g f0 f1 f2) : IsS47 w0 w' g f0 f1 f2 := by subst hq; exact IsS47.drewN h m
theorem IsS47.apart {w0 W : World} {g : Nat} {f0 : Int} {f1 : Int} {f2 : List (S73)} {α : Type} {d : Kd α} {e : Nat} {base : Nat} {ok : Nat → Prop} {v : Value} {xs : List α} (h : IsS47 w0 W g f0 f1 f2) (ho : d.R e W base ok v xs) (ht : ∀ q, q ∈ e :: d.E → q ≠ 47) : d.R e W base (fun k => ok k ∧ k ≠ g) v xs := by
  obtain ⟨A2, c2, hb, hg, hr2⟩ := h
  exact Kd.R_types ho hb ht
theorem IsS47.own_ne {w0 W : World} {g : Nat} {f0 : Int} {f1 : Int} {f2 : List (S73)} {α : Type} {d : Kd α} {e : Nat} {base : Nat} {ok : Nat → Prop} {v : Value} {xs : List α} (h : IsS47 w0 W g f0 f1 f2) (ho : d.R e W base ok v xs) (ht : e ≠ 47) : some g ≠ v.ownBlock := by
  obtain ⟨A2, c2, hb, hg, hr2⟩ := h
  exact Kd.R_ne ho hb ht
theorem IsS47.apartQ {w0 W : World} {g : Nat} {f0 : Int} {f1 : Int} {f2 : List (S73)} {α : Type} {d : Kd α} {e : Nat} {base : Nat} {ok : Nat → Prop} {v : Value} {xs : List α} (h : IsS47 w0 W g f0 f1 f2) (ho : d.Q e W base ok v xs) (ht : ∀ q, q ∈ e :: d.E → q ≠ 47) : d.Q e W base (fun k => ok k ∧ k ≠ g) v xs := by
  obtain ⟨A2, c2, hb, hg, hr2⟩ := h
  exact Kd.Q_types ho hb ht
theorem IsS47.own_neQ {w0 W : World} {g : Nat} {f0 : Int} {f1 : Int} {f2 : List (S73)} {α : Type} {d : Kd α} {e : Nat} {base : Nat} {ok : Nat → Prop} {v : Value} {xs : List α} (h : IsS47 w0 W g f0 f1 f2) (ho : d.Q e W base ok v xs) (ht : e ≠ 47) : some g ≠ v.ownBlock := by
  obtain ⟨A2, c2, hb, hg, hr2⟩ := h
  exact Kd.Q_ne ho hb ht
theorem IsS47.apartS {w0 W : World} {g : Nat} {f0 : Int} {f1 : Int} {f2 : List (S73)} {α : Type} {d : Kd α} {e : Nat} {base : Nat} {ok : Nat → Prop} {v : Value} {xs : List α} (h : IsS47 w0 W g f0 f1 f2) (ho : d.S e W base ok v xs) (ht : ∀ q, q ∈ e :: d.E → q ≠ 47) : d.S e W base (fun k => ok k ∧ k ≠ g) v xs := by
  obtain ⟨A2, c2, hb, hg, hr2⟩ := h
  exact Kd.S_types ho hb ht
theorem IsS47.own_neS {w0 W : World} {g : Nat} {f0 : Int} {f1 : Int} {f2 : List (S73)} {α : Type} {d : Kd α} {e : Nat} {base : Nat} {ok : Nat → Prop} {v : Value} {xs : List α} (h : IsS47 w0 W g f0 f1 f2) (ho : d.S e W base ok v xs) (ht : e ≠ 47) : some g ≠ v.ownBlock := by
  obtain ⟨A2, c2, hb, hg, hr2⟩ := h
  exact Kd.S_ne ho hb ht
theorem IsS47.lt {w0 W : World} {g : Nat} {f0 : Int} {f1 : Int} {f2 : List (S73)} (h : IsS47 w0 W g f0 f1 f2) : g < W.heap.size := by
  obtain ⟨A2, c2, hb, hg, hr2⟩ := h
  exact blk_lt hb
theorem IsS47.ge {w0 W : World} {g : Nat} {f0 : Int} {f1 : Int} {f2 : List (S73)} (h : IsS47 w0 W g f0 f1 f2) : w0.heap.size ≤ g := by
  obtain ⟨A2, c2, hb, hg, hr2⟩ := h
  exact hg
theorem IsS47.ne_blk {w0 W : World} {g : Nat} {f0 : Int} {f1 : Int} {f2 : List (S73)} {a : Nat} {cs : Array Value} {t : TypeId} {fr : Nat × Nat} (h : IsS47 w0 W g f0 f1 f2) (hb2 : W.heap[a]? = some (.cells cs t fr)) (ht : t ≠ 47) : g ≠ a := by
  obtain ⟨A2, c2, hb, hg, hr2⟩ := h
  rintro rfl
  rw [hb] at hb2
  injection hb2 with hb2
  injection hb2 with _ ht2
  exact ht ht2.symm
theorem IsS47.far {w0 W : World} {g : Nat} {f0 : Int} {f1 : Int} {f2 : List (S73)} {p : Addr} (h : IsS47 w0 W g f0 f1 f2) (hne : g ≠ p.block) (u : Value) : IsS47 w0 (W.setCell p u) g f0 f1 f2 := by
  obtain ⟨A2, c2, hb, hg, hr2⟩ := h
  exact ⟨A2, c2, blk_far hb hne u, hg, hr2⟩
theorem cellS47_0 {W : World} {g : Nat} {A2 : Option Addr} {c2 : Nat} {f0 : Int} {f1 : Int} {f2 : List (S73)} (h : W.heap[g]? = some (.cells #[.int .i64 f0, .int .i64 f1, .slice A2 f2.length c2] 47 (0, 0))) : W.cell? ⟨g, 0, none⟩ = some (.int .i64 f0) := (blk_cell h 0).trans rfl
theorem IsS47.set_0 {w0 W : World} {g : Nat} {f0 : Int} {f1 : Int} {f2 : List (S73)} (h : IsS47 w0 W g f0 f1 f2) (x : Int) : IsS47 w0 (W.setCell ⟨g, 0, none⟩ (.int .i64 x)) g x f1 f2 := by
  obtain ⟨A2, c2, hb, hg, hr2⟩ := h
  exact ⟨A2, c2, by simpa using blk_set hb 0 (.int .i64 x), hg, hr2⟩
theorem cellS47_1 {W : World} {g : Nat} {A2 : Option Addr} {c2 : Nat} {f0 : Int} {f1 : Int} {f2 : List (S73)} (h : W.heap[g]? = some (.cells #[.int .i64 f0, .int .i64 f1, .slice A2 f2.length c2] 47 (0, 0))) : W.cell? ⟨g, 1, none⟩ = some (.int .i64 f1) := (blk_cell h 1).trans rfl
theorem IsS47.set_1 {w0 W : World} {g : Nat} {f0 : Int} {f1 : Int} {f2 : List (S73)} (h : IsS47 w0 W g f0 f1 f2) (x : Int) : IsS47 w0 (W.setCell ⟨g, 1, none⟩ (.int .i64 x)) g f0 x f2 := by
  obtain ⟨A2, c2, hb, hg, hr2⟩ := h
  exact ⟨A2, c2, by simpa using blk_set hb 1 (.int .i64 x), hg, hr2⟩
theorem cellS47_2 {W : World} {g : Nat} {A2 : Option Addr} {c2 : Nat} {f0 : Int} {f1 : Int} {f2 : List (S73)} (h : W.heap[g]? = some (.cells #[.int .i64 f0, .int .i64 f1, .slice A2 f2.length c2] 47 (0, 0))) : W.cell? ⟨g, 2, none⟩ = some (.slice A2 f2.length c2) := (blk_cell h 2).trans rfl
theorem IsS47.new (w0 W : World) (A2 : Option Addr) (c2 : Nat) (f0 : Int) (f1 : Int) (f2 : List (S73)) (hB : Below w0.heap.size w0 W) (hr2 : Kd.C k73 w0 A2 f2.length f2) : IsS47 w0 (W.alloc (.cells #[.int .i64 f0, .int .i64 f1, .slice A2 f2.length c2] 47)) W.heap.size f0 f1 f2 := ⟨A2, c2, by simpa using heap_alloc_new W _, hB.size, hr2⟩

/-! ### laws_marksWork: function 13 -/
def laws_marksWork.f  : Option (Bool) := (impl_RunMarks.f (([(⟨0, 1, ([] : List Int)⟩ : S31), (⟨2, 1, ([] : List Int)⟩ : S31)] : List (S31)))).bind fun t129 => (if (t129.length : Int) = 2 then (if 0 < (t129.length : Int) then (if ((rd_T34 t129 0).f0) = 0 then (if 1 < (t129.length : Int) then (some (((rd_T34 t129 1).f0) == 1)) else (none)) else (some false)) else (none)) else (some false))
set_option maxHeartbeats 8000000 in
set_option maxRecDepth 100000 in
theorem laws_marksWork.calls  (r : Bool) (w : World) (h : laws_marksWork.f  = some r) :
    Calls Try.prog 13 #[] w fun e w' => e = .returned (.bool r) ∧ Below w.heap.size w w' := by
  have hu31 := Try.underlying31
  have HB := Aside0.mk (Below.refl w.heap.size w)
  have H : ((impl_RunMarks.f (([(⟨0, 1, ([] : List Int)⟩ : S31), (⟨2, 1, ([] : List Int)⟩ : S31)] : List (S31)))).bind fun t129 => (if (t129.length : Int) = 2 then (if 0 < (t129.length : Int) then (if ((rd_T34 t129 0).f0) = 0 then (if 1 < (t129.length : Int) then (some (((rd_T34 t129 1).f0) == 1)) else (none)) else (some false)) else (none)) else (some false))) = some r := h
  clear h
  obtain ⟨y126, hy126⟩ : ∃ y_ : List (S31), y_ = (([(⟨0, 1, ([] : List Int)⟩ : S31), (⟨2, 1, ([] : List Int)⟩ : S31)] : List (S31))) := ⟨_, rfl⟩
  replace H : ((impl_RunMarks.f y126).bind fun t129 => (if (t129.length : Int) = 2 then (if 0 < (t129.length : Int) then (if ((rd_T34 t129 0).f0) = 0 then (if 1 < (t129.length : Int) then (some (((rd_T34 t129 1).f0) == 1)) else (none)) else (some false)) else (none)) else (some false))) = some r := by first | (rw [hy126]; with_reducible exact H) | (have H2_ := (Option.bind_some _ _).symm.trans H; rw [hy126]; with_reducible exact H2_) | (have H2_ := (Option.bind_some _ _).symm.trans H; with_reducible exact H2_) | with_reducible exact H | (rw [hy126]; exact H) | exact H
  have Ny126 := Aside0.mk hy126
  clear hy126
  replace H := Option.bind_eq_some_iff.mp H
  obtain ⟨t129, A10, H⟩ := H
  replace H : (if (t129.length : Int) = 2 then (if 0 < (t129.length : Int) then (if ((rd_T34 t129 0).f0) = 0 then (if 1 < (t129.length : Int) then (some (((rd_T34 t129 1).f0) == 1)) else (none)) else (some false)) else (none)) else (some false)) = some r := H
  have A1 := Aside0.mk A10
  clear A10
  by_cases c2 : (t129.length : Int) = 2
  · rw [if_pos c2] at H
    have c2b0 : ((t129.length : Int) == 2) = true := beq_iff_eq.mpr c2
    have c2b1 : ((t129.length : Int) != 2) = false := bne_eq_false_iff_eq.mpr c2
    clear c2
    by_cases c3 : 0 < (t129.length : Int)
    · rw [if_pos c3] at H
      have c3b0 : decide (0 < (t129.length : Int)) = true := decide_eq_true c3
      have c3b1 : decide (0 < t129.length) = true := decide_eq_true (by omega)
      clear c3
      by_cases c4 : ((rd_T34 t129 0).f0) = 0
      · rw [if_pos c4] at H
        have c4b0 : (((rd_T34 t129 0).f0) == 0) = true := beq_iff_eq.mpr c4
        have c4b1 : (((rd_T34 t129 0).f0) != 0) = false := bne_eq_false_iff_eq.mpr c4
        clear c4
        by_cases c5 : 1 < (t129.length : Int)
        · rw [if_pos c5] at H
          have c5b0 : decide (1 < (t129.length : Int)) = true := decide_eq_true c5
          have c5b1 : decide (1 < t129.length) = true := decide_eq_true (by omega)
          clear c5
          obtain rfl := Option.some.inj H
          go_enter Try.func13, Try.ntmps13
          go_wp2_with (first | ((with_reducible refine gate_dst (N := 4) rfl ?_); refine Kd.S_lit k31 _ 31 ?hg (N := 4) ?hd (xs := ([(⟨0, 1, ([] : List Int)⟩ : S31), (⟨2, 1, ([] : List Int)⟩ : S31)] : List (S31))) (inner := [.int .i64 0, .int .i64 1, .slice none 0 0, .int .i64 2, .int .i64 1, .slice none 0 0]) (ok := fun _ => True) (okp := fun _ => True) ?hr ?hp (fun _ hk => hk) trivial (Below.refl _ _) (Nat.le_refl _) (by simp) ?_; (case hd => rfl); (case hg => rfl); (case hr => first | (go_simp; done) | (go_simp; rfl)); (case hp => exact (Reps.c3 (show Kd.M k31 _ _ _ (⟨0, 1, ([] : List Int)⟩ : S31) [.int .i64 0, .int .i64 1, .slice none 0 0] from (k31_mkM _ _ _ (⟨0, 1, ([] : List Int)⟩ : S31) (Kd.R_nil _ _ _ _ _))) (Reps.c3 (show Kd.M k31 _ _ _ (⟨2, 1, ([] : List Int)⟩ : S31) [.int .i64 2, .int .i64 1, .slice none 0 0] from (k31_mkM _ _ _ (⟨2, 1, ([] : List Int)⟩ : S31) (Kd.R_nil _ _ _ _ _))) (Reps.none _ _)))); intro v127 w6 ho7 hb hg_ hnew_; clear hg_ hnew_; (first | rw [← Ny126.out] at ho7 | (simp only [Int.reduceToNat] at ho7; rw [← Ny126.out] at ho7)); have n0_ := Aside0.mk (Kd.S_lower ho7 (below_size (by repeat (first | (with_reducible first | exact HB.out | apply below_alloc | apply pw_below_drewN | apply below_drew1) | exact HB.out)))); have n1_ := Aside0.mk (below_step (by repeat (first | (with_reducible first | exact HB.out | apply below_alloc | apply pw_below_drewN | apply below_drew1) | exact HB.out)) hb); clear HB; have HO128 := n0_; have HB := n1_; clear n0_ n1_; clear hb ho7; obtain ⟨Ao8, co8, eo8⟩ := Kd.S_slice HO128.out; subst eo8) | ((with_reducible refine gate_callee (f := 14) rfl ?_); refine goesL_ (some 5) rfl rfl Try.func14 (by kernel_rfl) rfl #[.slice Ao8 y126.length co8] rfl (by (try simp only [List.map_toArray, List.map_cons, List.map_nil]); first | done | rfl | (simp only [List.length_drop, List.length_take]; rfl)) ?_; (with_reducible refine (impl_RunMarks.calls _ _ y126 t129 _ ?side1 ?side2 A1.out).mono ?_); (case side1 => repeat (first | exact (Kd.S_reads' HO128.out).2.2 | (with_reducible refine Kd.C_alloc ?_ _) | (with_reducible refine Kd.C_drewN ?_ _) | (with_reducible refine Kd.C_drew ?_))); (case side2 => exact (Kd.S_reads' HO128.out).2.1); rintro e w9 ⟨v130, rfl, ho0, hb⟩; refine ⟨_, rfl, ?_⟩; have n0_ := Aside0.mk (Kd.S_below (by (with_reducible repeat (first | apply Kd.S_alloc | apply Kd.S_drewN | apply Kd.S_drew)); exact HO128.out) hb); have n1_ := Aside0.mk (Kd.S_lower ho0 (below_size (by repeat (first | (with_reducible first | exact HB.out | apply below_alloc | apply pw_below_drewN | apply below_drew1) | exact HB.out)))); have n2_ := Aside0.mk (below_step (by repeat (first | (with_reducible first | exact HB.out | apply below_alloc | apply pw_below_drewN | apply below_drew1) | exact HB.out)) hb); clear HO128; clear HB; have HO128 := n0_; have HO131 := n1_; have HB := n2_; clear n0_ n1_ n2_; (try clear hb); (try clear hb2); (try clear hk); (try clear hi); (try clear ho0); obtain ⟨Ao10, co10, eo10⟩ := Kd.S_slice HO131.out; subst eo10; have p132 : 0 ≤ (0 : Int) := (by omega); have q132 : 0 < (t129.length : Int) := of_decide_eq_true (by first | (with_reducible assumption) | assumption); obtain ⟨ad132, A132_4, c132_4, e132, hx132_0, hx132_1, hx132_2, hx132_3, hx132_4, hl132_4, hi132_4⟩ := at_T34 (Kd.S_reads' HO131.out).2.2 0 p132 q132; cases e132; obtain ⟨ce132, hce132, hMe132, hcc132⟩ := Kd.S_get HO131.out z34 0 p132 (by first | exact q132 | exact of_decide_eq_true (by first | (with_reducible assumption) | assumption) | (have e_ := (Kd.S_reads' HO131.out).1; omega)); obtain ⟨ve132_4, rfl, ge132_4⟩ := k34_openM hMe132; have hv132_4 := hcc132 4 _ rfl; rw [add_field _ _ 4 (by omega)] at hv132_4; replace hv132_4 := Option.some.inj (hv132_4.symm.trans hx132_4); rw [hv132_4] at ge132_4; have HL132_4 := Aside0.mk (show Kd.R Kd.bool 4 _ _ _ _ ((rd_T34 t129 0).f4) from ge132_4); clear hv132_4 ge132_4; clear hcc132 hce132; have qi132 : (0 < t129.length) = True := eq_true (by omega); (try rw [show ((0 : Int)).toNat = 0 from rfl] at hx132_0); (try rw [show 0 * 5 = 0 from rfl] at hx132_0); (try rw [Addr.add_zero'] at hx132_0); (try rw [show ((0 : Int)).toNat = 0 from rfl] at hx132_1); (try rw [show 0 * 5 = 0 from rfl] at hx132_1); (try rw [Addr.add_zero'] at hx132_1); (try rw [show ((0 : Int)).toNat = 0 from rfl] at hx132_2); (try rw [show 0 * 5 = 0 from rfl] at hx132_2); (try rw [Addr.add_zero'] at hx132_2); (try rw [show ((0 : Int)).toNat = 0 from rfl] at hx132_3); (try rw [show 0 * 5 = 0 from rfl] at hx132_3); (try rw [Addr.add_zero'] at hx132_3); (try rw [show ((0 : Int)).toNat = 0 from rfl] at hx132_4); (try rw [show 0 * 5 = 0 from rfl] at hx132_4); (try rw [Addr.add_zero'] at hx132_4); have HR132_4 := Aside0.mk hi132_4; have HC132_4 := Aside0.mk hl132_4; clear hi132_4 hl132_4; replace p132 := eq_true p132; replace q132 := eq_true q132; have p133 : 0 ≤ (1 : Int) := (by omega); have q133 : 1 < (t129.length : Int) := of_decide_eq_true (by first | (with_reducible assumption) | assumption); obtain ⟨ad133, A133_4, c133_4, e133, hx133_0, hx133_1, hx133_2, hx133_3, hx133_4, hl133_4, hi133_4⟩ := at_T34 (Kd.S_reads' HO131.out).2.2 1 p133 q133; obtain rfl : ad132 = ad133 := (by injection e133); obtain ⟨ce133, hce133, hMe133, hcc133⟩ := Kd.S_get HO131.out z34 1 p133 (by first | exact q133 | exact of_decide_eq_true (by first | (with_reducible assumption) | assumption) | (have e_ := (Kd.S_reads' HO131.out).1; omega)); obtain ⟨ve133_4, rfl, ge133_4⟩ := k34_openM hMe133; have hv133_4 := hcc133 4 _ rfl; rw [add_field _ _ 4 (by omega)] at hv133_4; replace hv133_4 := Option.some.inj (hv133_4.symm.trans hx133_4); rw [hv133_4] at ge133_4; have HL133_4 := Aside0.mk (show Kd.R Kd.bool 4 _ _ _ _ ((rd_T34 t129 1).f4) from ge133_4); clear hv133_4 ge133_4; clear hcc133 hce133; (try simp only [show (1 : Int).toNat = 1 from rfl, Nat.reduceMul, Nat.reduceEqDiff, Go.Addr.add, ↓reduceIte] at hx133_0); (try simp only [show (1 : Int).toNat = 1 from rfl, Nat.reduceMul, Nat.reduceEqDiff, Go.Addr.add, ↓reduceIte] at hx133_1); (try simp only [show (1 : Int).toNat = 1 from rfl, Nat.reduceMul, Nat.reduceEqDiff, Go.Addr.add, ↓reduceIte] at hx133_2); (try simp only [show (1 : Int).toNat = 1 from rfl, Nat.reduceMul, Nat.reduceEqDiff, Go.Addr.add, ↓reduceIte] at hx133_3); (try simp only [show (1 : Int).toNat = 1 from rfl, Nat.reduceMul, Nat.reduceEqDiff, Go.Addr.add, ↓reduceIte] at hx133_4); have qi133 : (1 < t129.length) = True := eq_true (by omega); (try rw [show ((1 : Int)).toNat = 1 from rfl] at hx133_0); (try rw [show 1 * 5 = 5 from rfl] at hx133_0); (try rw [show ((1 : Int)).toNat = 1 from rfl] at hx133_1); (try rw [show 1 * 5 = 5 from rfl] at hx133_1); (try rw [show ((1 : Int)).toNat = 1 from rfl] at hx133_2); (try rw [show 1 * 5 = 5 from rfl] at hx133_2); (try rw [show ((1 : Int)).toNat = 1 from rfl] at hx133_3); (try rw [show 1 * 5 = 5 from rfl] at hx133_3); (try rw [show ((1 : Int)).toNat = 1 from rfl] at hx133_4); (try rw [show 1 * 5 = 5 from rfl] at hx133_4); have HR133_4 := Aside0.mk hi133_4; have HC133_4 := Aside0.mk hl133_4; clear hi133_4 hl133_4; replace p133 := eq_true p133; replace q133 := eq_true q133))
          go_ret
          exact ⟨by first | rfl | (simp [errW_none, errW_some] <;> rfl) | (simp [*, errW_none, errW_some] <;> rfl), by repeat (first | (with_reducible first | exact HB.out | apply below_alloc | apply pw_below_drewN | apply below_drew1) | exact HB.out)⟩
        · rw [if_neg c5] at H
          exact absurd H (by simp)
      · rw [if_neg c4] at H
        have c4b0 : (((rd_T34 t129 0).f0) == 0) = false := beq_eq_false_iff_ne.mpr c4
        have c4b1 : (((rd_T34 t129 0).f0) != 0) = true := bne_iff_ne.mpr c4
        obtain rfl := Option.some.inj H
        go_enter Try.func13, Try.ntmps13
        go_wp2_with (first | ((with_reducible refine gate_dst (N := 4) rfl ?_); refine Kd.S_lit k31 _ 31 ?hg (N := 4) ?hd (xs := ([(⟨0, 1, ([] : List Int)⟩ : S31), (⟨2, 1, ([] : List Int)⟩ : S31)] : List (S31))) (inner := [.int .i64 0, .int .i64 1, .slice none 0 0, .int .i64 2, .int .i64 1, .slice none 0 0]) (ok := fun _ => True) (okp := fun _ => True) ?hr ?hp (fun _ hk => hk) trivial (Below.refl _ _) (Nat.le_refl _) (by simp) ?_; (case hd => rfl); (case hg => rfl); (case hr => first | (go_simp; done) | (go_simp; rfl)); (case hp => exact (Reps.c3 (show Kd.M k31 _ _ _ (⟨0, 1, ([] : List Int)⟩ : S31) [.int .i64 0, .int .i64 1, .slice none 0 0] from (k31_mkM _ _ _ (⟨0, 1, ([] : List Int)⟩ : S31) (Kd.R_nil _ _ _ _ _))) (Reps.c3 (show Kd.M k31 _ _ _ (⟨2, 1, ([] : List Int)⟩ : S31) [.int .i64 2, .int .i64 1, .slice none 0 0] from (k31_mkM _ _ _ (⟨2, 1, ([] : List Int)⟩ : S31) (Kd.R_nil _ _ _ _ _))) (Reps.none _ _)))); intro v127 w11 ho12 hb hg_ hnew_; clear hg_ hnew_; (first | rw [← Ny126.out] at ho12 | (simp only [Int.reduceToNat] at ho12; rw [← Ny126.out] at ho12)); have n0_ := Aside0.mk (Kd.S_lower ho12 (below_size (by repeat (first | (with_reducible first | exact HB.out | apply below_alloc | apply pw_below_drewN | apply below_drew1) | exact HB.out)))); have n1_ := Aside0.mk (below_step (by repeat (first | (with_reducible first | exact HB.out | apply below_alloc | apply pw_below_drewN | apply below_drew1) | exact HB.out)) hb); clear HB; have HO128 := n0_; have HB := n1_; clear n0_ n1_; clear hb ho12; obtain ⟨Ao13, co13, eo13⟩ := Kd.S_slice HO128.out; subst eo13) | ((with_reducible refine gate_callee (f := 14) rfl ?_); refine goesL_ (some 5) rfl rfl Try.func14 (by kernel_rfl) rfl #[.slice Ao13 y126.length co13] rfl (by (try simp only [List.map_toArray, List.map_cons, List.map_nil]); first | done | rfl | (simp only [List.length_drop, List.length_take]; rfl)) ?_; (with_reducible refine (impl_RunMarks.calls _ _ y126 t129 _ ?side1 ?side2 A1.out).mono ?_); (case side1 => repeat (first | exact (Kd.S_reads' HO128.out).2.2 | (with_reducible refine Kd.C_alloc ?_ _) | (with_reducible refine Kd.C_drewN ?_ _) | (with_reducible refine Kd.C_drew ?_))); (case side2 => exact (Kd.S_reads' HO128.out).2.1); rintro e w14 ⟨v130, rfl, ho0, hb⟩; refine ⟨_, rfl, ?_⟩; have n0_ := Aside0.mk (Kd.S_below (by (with_reducible repeat (first | apply Kd.S_alloc | apply Kd.S_drewN | apply Kd.S_drew)); exact HO128.out) hb); have n1_ := Aside0.mk (Kd.S_lower ho0 (below_size (by repeat (first | (with_reducible first | exact HB.out | apply below_alloc | apply pw_below_drewN | apply below_drew1) | exact HB.out)))); have n2_ := Aside0.mk (below_step (by repeat (first | (with_reducible first | exact HB.out | apply below_alloc | apply pw_below_drewN | apply below_drew1) | exact HB.out)) hb); clear HO128; clear HB; have HO128 := n0_; have HO131 := n1_; have HB := n2_; clear n0_ n1_ n2_; (try clear hb); (try clear hb2); (try clear hk); (try clear hi); (try clear ho0); obtain ⟨Ao15, co15, eo15⟩ := Kd.S_slice HO131.out; subst eo15; have p132 : 0 ≤ (0 : Int) := (by omega); have q132 : 0 < (t129.length : Int) := of_decide_eq_true (by first | (with_reducible assumption) | assumption); obtain ⟨ad132, A132_4, c132_4, e132, hx132_0, hx132_1, hx132_2, hx132_3, hx132_4, hl132_4, hi132_4⟩ := at_T34 (Kd.S_reads' HO131.out).2.2 0 p132 q132; cases e132; obtain ⟨ce132, hce132, hMe132, hcc132⟩ := Kd.S_get HO131.out z34 0 p132 (by first | exact q132 | exact of_decide_eq_true (by first | (with_reducible assumption) | assumption) | (have e_ := (Kd.S_reads' HO131.out).1; omega)); obtain ⟨ve132_4, rfl, ge132_4⟩ := k34_openM hMe132; have hv132_4 := hcc132 4 _ rfl; rw [add_field _ _ 4 (by omega)] at hv132_4; replace hv132_4 := Option.some.inj (hv132_4.symm.trans hx132_4); rw [hv132_4] at ge132_4; have HL132_4 := Aside0.mk (show Kd.R Kd.bool 4 _ _ _ _ ((rd_T34 t129 0).f4) from ge132_4); clear hv132_4 ge132_4; clear hcc132 hce132; have qi132 : (0 < t129.length) = True := eq_true (by omega); (try rw [show ((0 : Int)).toNat = 0 from rfl] at hx132_0); (try rw [show 0 * 5 = 0 from rfl] at hx132_0); (try rw [Addr.add_zero'] at hx132_0); (try rw [show ((0 : Int)).toNat = 0 from rfl] at hx132_1); (try rw [show 0 * 5 = 0 from rfl] at hx132_1); (try rw [Addr.add_zero'] at hx132_1); (try rw [show ((0 : Int)).toNat = 0 from rfl] at hx132_2); (try rw [show 0 * 5 = 0 from rfl] at hx132_2); (try rw [Addr.add_zero'] at hx132_2); (try rw [show ((0 : Int)).toNat = 0 from rfl] at hx132_3); (try rw [show 0 * 5 = 0 from rfl] at hx132_3); (try rw [Addr.add_zero'] at hx132_3); (try rw [show ((0 : Int)).toNat = 0 from rfl] at hx132_4); (try rw [show 0 * 5 = 0 from rfl] at hx132_4); (try rw [Addr.add_zero'] at hx132_4); have HR132_4 := Aside0.mk hi132_4; have HC132_4 := Aside0.mk hl132_4; clear hi132_4 hl132_4; replace p132 := eq_true p132; replace q132 := eq_true q132))
        go_ret
        exact ⟨by first | rfl | (simp [errW_none, errW_some] <;> rfl) | (simp [*, errW_none, errW_some] <;> rfl), by repeat (first | (with_reducible first | exact HB.out | apply below_alloc | apply pw_below_drewN | apply below_drew1) | exact HB.out)⟩
    · rw [if_neg c3] at H
      exact absurd H (by simp)
  · rw [if_neg c2] at H
    have c2b0 : ((t129.length : Int) == 2) = false := beq_eq_false_iff_ne.mpr c2
    have c2b1 : ((t129.length : Int) != 2) = true := bne_iff_ne.mpr c2
    obtain rfl := Option.some.inj H
    go_enter Try.func13, Try.ntmps13
    go_wp2_with (first | ((with_reducible refine gate_dst (N := 4) rfl ?_); refine Kd.S_lit k31 _ 31 ?hg (N := 4) ?hd (xs := ([(⟨0, 1, ([] : List Int)⟩ : S31), (⟨2, 1, ([] : List Int)⟩ : S31)] : List (S31))) (inner := [.int .i64 0, .int .i64 1, .slice none 0 0, .int .i64 2, .int .i64 1, .slice none 0 0]) (ok := fun _ => True) (okp := fun _ => True) ?hr ?hp (fun _ hk => hk) trivial (Below.refl _ _) (Nat.le_refl _) (by simp) ?_; (case hd => rfl); (case hg => rfl); (case hr => first | (go_simp; done) | (go_simp; rfl)); (case hp => exact (Reps.c3 (show Kd.M k31 _ _ _ (⟨0, 1, ([] : List Int)⟩ : S31) [.int .i64 0, .int .i64 1, .slice none 0 0] from (k31_mkM _ _ _ (⟨0, 1, ([] : List Int)⟩ : S31) (Kd.R_nil _ _ _ _ _))) (Reps.c3 (show Kd.M k31 _ _ _ (⟨2, 1, ([] : List Int)⟩ : S31) [.int .i64 2, .int .i64 1, .slice none 0 0] from (k31_mkM _ _ _ (⟨2, 1, ([] : List Int)⟩ : S31) (Kd.R_nil _ _ _ _ _))) (Reps.none _ _)))); intro v127 w16 ho17 hb hg_ hnew_; clear hg_ hnew_; (first | rw [← Ny126.out] at ho17 | (simp only [Int.reduceToNat] at ho17; rw [← Ny126.out] at ho17)); have n0_ := Aside0.mk (Kd.S_lower ho17 (below_size (by repeat (first | (with_reducible first | exact HB.out | apply below_alloc | apply pw_below_drewN | apply below_drew1) | exact HB.out)))); have n1_ := Aside0.mk (below_step (by repeat (first | (with_reducible first | exact HB.out | apply below_alloc | apply pw_below_drewN | apply below_drew1) | exact HB.out)) hb); clear HB; have HO128 := n0_; have HB := n1_; clear n0_ n1_; clear hb ho17; obtain ⟨Ao18, co18, eo18⟩ := Kd.S_slice HO128.out; subst eo18) | ((with_reducible refine gate_callee (f := 14) rfl ?_); refine goesL_ (some 5) rfl rfl Try.func14 (by kernel_rfl) rfl #[.slice Ao18 y126.length co18] rfl (by (try simp only [List.map_toArray, List.map_cons, List.map_nil]); first | done | rfl | (simp only [List.length_drop, List.length_take]; rfl)) ?_; (with_reducible refine (impl_RunMarks.calls _ _ y126 t129 _ ?side1 ?side2 A1.out).mono ?_); (case side1 => repeat (first | exact (Kd.S_reads' HO128.out).2.2 | (with_reducible refine Kd.C_alloc ?_ _) | (with_reducible refine Kd.C_drewN ?_ _) | (with_reducible refine Kd.C_drew ?_))); (case side2 => exact (Kd.S_reads' HO128.out).2.1); rintro e w19 ⟨v130, rfl, ho0, hb⟩; refine ⟨_, rfl, ?_⟩; have n0_ := Aside0.mk (Kd.S_below (by (with_reducible repeat (first | apply Kd.S_alloc | apply Kd.S_drewN | apply Kd.S_drew)); exact HO128.out) hb); have n1_ := Aside0.mk (Kd.S_lower ho0 (below_size (by repeat (first | (with_reducible first | exact HB.out | apply below_alloc | apply pw_below_drewN | apply below_drew1) | exact HB.out)))); have n2_ := Aside0.mk (below_step (by repeat (first | (with_reducible first | exact HB.out | apply below_alloc | apply pw_below_drewN | apply below_drew1) | exact HB.out)) hb); clear HO128; clear HB; have HO128 := n0_; have HO131 := n1_; have HB := n2_; clear n0_ n1_ n2_; (try clear hb); (try clear hb2); (try clear hk); (try clear hi); (try clear ho0); obtain ⟨Ao20, co20, eo20⟩ := Kd.S_slice HO131.out; subst eo20))
    go_ret
    exact ⟨by first | rfl | (simp [errW_none, errW_some] <;> rfl) | (simp [*, errW_none, errW_some] <;> rfl), by repeat (first | (with_reducible first | exact HB.out | apply below_alloc | apply pw_below_drewN | apply below_drew1) | exact HB.out)⟩

end Go.Proofs.Ytimakagmhikhfaa.M
