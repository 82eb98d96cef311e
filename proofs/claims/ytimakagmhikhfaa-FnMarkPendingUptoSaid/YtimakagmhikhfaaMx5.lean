-- made by stubprint.py
import Derived.Test.YtimakagmhikhfaaMx0
import Derived.Test.YtimakagmhikhfaaMx1
namespace Go.Proofs.Ytimakagmhikhfaa.M
open Go.RowKit Go.Proofs.YtimakagmhikhfaaW.PrintWords Go.Proofs.YtimakagmhikhfaaW.PrintLast Go.Proofs.YtimakagmhikhfaaW.PrintMore
attribute [local go_sem] max2_int min2_int max_two min_two max_three min_three max_four min_four   -- for this text's walks alone
set_option linter.unusedVariables false
set_option linter.unusedSimpArgs false

/-! ### spec_Apart: function 18 -/
mutual
def spec_Apart.l0 : Nat → List (S31) → List (S31) → Int → Int → Option (Bool)
  | 0, _, _, _, _ => none
  | k + 1, x0, x7, x8, x9 => if x9 < x8 then (if 0 ≤ x9 then (if x9 < (x7.length : Int) then (if x9 ≤ (x0.length : Int) then ((some (x0.take (x9 : Int).toNat : List (S31))).bind fun y266 => (spec_Apart.l1 k x0 x7 x8 x9 y266 (y266.length : Int) 0 ((rd_T31 x7 x9).f0) ((rd_T31 x7 x9).f1) ((rd_T31 x7 x9).f2))) else (none)) else (none)) else (none)) else (some true)
def spec_Apart.l1 : Nat → List (S31) → List (S31) → Int → Int → List (S31) → Int → Int → Int → Int → List Int → Option (Bool)
  | 0, _, _, _, _, _, _, _, _, _, _ => none
  | k + 1, x0, x7, x8, x9, x16, x17, x18, x266000, x266001, x266002 => if x18 < x17 then (if 0 ≤ x18 then (if x18 < (x16.length : Int) then (if x266000 = 5 then (if ((rd_T31 x16 x18).f0) = 5 then (if x266001 = ((rd_T31 x16 x18).f1) then (some false) else (spec_Apart.l1 k x0 x7 x8 x9 x16 x17 (wrap64 (x18 + 1)) x266000 x266001 x266002)) else (spec_Apart.l1 k x0 x7 x8 x9 x16 x17 (wrap64 (x18 + 1)) x266000 x266001 x266002)) else (spec_Apart.l1 k x0 x7 x8 x9 x16 x17 (wrap64 (x18 + 1)) x266000 x266001 x266002)) else (none)) else (none)) else (spec_Apart.l0 k x0 x7 x8 (wrap64 (x9 + 1)))
end
def spec_Apart.f (k : Nat) (l0 : List (S31)) : Option (Bool) := spec_Apart.l0 k l0 l0 (l0.length : Int) 0
theorem spec_Apart.mono_l : ∀ k, (∀ y0 y1 y2 y3, LeO (spec_Apart.l0 k y0 y1 y2 y3) (spec_Apart.l0 (k + 1) y0 y1 y2 y3)) ∧ (∀ y0 y1 y2 y3 y4 y5 y6 y7 y8 y9, LeO (spec_Apart.l1 k y0 y1 y2 y3 y4 y5 y6 y7 y8 y9) (spec_Apart.l1 (k + 1) y0 y1 y2 y3 y4 y5 y6 y7 y8 y9))
  | 0 => ⟨fun _ _ _ _ r h => by simp [spec_Apart.l0] at h, fun _ _ _ _ _ _ _ _ _ _ r h => by simp [spec_Apart.l1] at h⟩
  | k + 1 => by
    obtain ⟨ih0, ih1⟩ := spec_Apart.mono_l k
    refine ⟨?_, ?_⟩
    · intro y0 y1 y2 y3
      unfold spec_Apart.l0
      repeat' first
      | (with_reducible exact ih0 _ _ _ _)
      | (with_reducible exact ih1 _ _ _ _ _ _ _ _ _ _)
      | (with_reducible exact LeO.refl _)
      | (with_reducible exact LeO.none _)
      | (with_reducible refine LeO.ite ?_ ?_)
      | (with_reducible refine LeO.bind ?_ (fun _ => ?_))
      | exact ih0 _ _ _ _
      | exact ih1 _ _ _ _ _ _ _ _ _ _
      | exact LeO.none _
      | refine LeO.ite ?_ ?_
      | refine LeO.bind ?_ (fun _ => ?_)
    · intro y0 y1 y2 y3 y4 y5 y6 y7 y8 y9
      unfold spec_Apart.l1
      repeat' first
      | (with_reducible exact ih0 _ _ _ _)
      | (with_reducible exact ih1 _ _ _ _ _ _ _ _ _ _)
      | (with_reducible exact LeO.refl _)
      | (with_reducible exact LeO.none _)
      | (with_reducible refine LeO.ite ?_ ?_)
      | (with_reducible refine LeO.bind ?_ (fun _ => ?_))
      | exact ih0 _ _ _ _
      | exact ih1 _ _ _ _ _ _ _ _ _ _
      | exact LeO.none _
      | refine LeO.ite ?_ ?_
      | refine LeO.bind ?_ (fun _ => ?_)
theorem spec_Apart.mono : ∀ a0 k, LeO (spec_Apart.f k a0) (spec_Apart.f (k + 1) a0) := by
  intro a0 k
  obtain ⟨ih0, ih1⟩ := spec_Apart.mono_l k
  unfold spec_Apart.f
  repeat' first
      | (with_reducible exact ih0 _ _ _ _)
      | (with_reducible exact ih1 _ _ _ _ _ _ _ _ _ _)
      | (with_reducible exact LeO.refl _)
      | (with_reducible exact LeO.none _)
      | (with_reducible refine LeO.ite ?_ ?_)
      | (with_reducible refine LeO.bind ?_ (fun _ => ?_))
      | exact ih0 _ _ _ _
      | exact ih1 _ _ _ _ _ _ _ _ _ _
      | exact LeO.none _
      | refine LeO.ite ?_ ?_
      | refine LeO.bind ?_ (fun _ => ?_)
set_option maxHeartbeats 8000000 in
set_option maxRecDepth 100000 in
theorem spec_Apart.calls (k : Nat) (A0 : Option Addr) (c0 : Nat) (l0 : List (S31)) (r : Bool) (w : World) (hr0 : Kd.C k31 w A0 l0.length l0) (hc0 : l0.length ≤ c0) (h : spec_Apart.f k l0 = some r) :
    Calls Try.prog 18 #[.slice A0 l0.length c0] w fun e w' => e = .returned (.bool r) ∧ Below w.heap.size w w' := by
  have hu31 := Try.underlying31
  have HR0 := Aside0.mk hr0
  have HC0 := Aside0.mk hc0
  clear hr0 hc0
  have HB := Aside0.mk (Below.refl w.heap.size w)
  have H : (spec_Apart.l0 k l0 l0 (l0.length : Int) 0) = some r := h
  clear h
  have H' := Aside0.mk H
  clear H
  go_enter Try.func18, Try.ntmps18
  go_wp2
  go_loopg [9] k (fun kq v9 w' => ∃ (x9_1 : Int), v9 = .int .i64 x9_1 ∧ Aside0 (spec_Apart.l0 kq l0 l0 (l0.length : Int) x9_1 = some r) ∧ Aside0 (kq ≤ k) ∧ Aside0 (Below w.heap.size w w'))
  case atStart => exact ⟨(0), (by first | rfl | (simp; done) | (simp [*]; done)), H', ⟨Nat.le_refl _⟩, ⟨by repeat (first | (with_reducible first | exact HB.out | apply below_alloc | apply pw_below_drewN | apply below_drew1) | exact HB.out)⟩⟩
  case round =>
    clear H'
    try clear c1
    obtain ⟨x9_1, rfl, HA, HK1, HB⟩ := hrel
    cases gk with
    | zero => exact absurd HA.out (by simp [spec_Apart.l0])
    | succ k1 =>
      have H := HA.out
      clear HA
      simp only [spec_Apart.l0] at H
      by_cases c2 : x9_1 < (l0.length : Int)
      · rw [if_pos c2] at H
        have c2b0 : decide (x9_1 < (l0.length : Int)) = true := decide_eq_true c2
        clear c2
        by_cases c3 : 0 ≤ x9_1
        · rw [if_pos c3] at H
          have c3b0 : decide (0 ≤ x9_1) = true := decide_eq_true c3
          clear c3
          by_cases c4 : x9_1 < (l0.length : Int)
          · rw [if_pos c4] at H
            have c4b0 : decide (x9_1 < (l0.length : Int)) = true := decide_eq_true c4
            clear c4
            have c5b0 := eq_true (of_decide_eq_true (by first | (with_reducible assumption) | assumption) : 0 ≤ x9_1)
            by_cases c6 : x9_1 ≤ (l0.length : Int)
            · rw [if_pos c6] at H
              have c6b0 := eq_true c6
              have c6b1 : decide (x9_1 ≤ (l0.length : Int)) = true := decide_eq_true c6
              clear c6
              obtain ⟨y266, hy266⟩ : ∃ y_ : List (S31), y_ = (l0.take (x9_1 : Int).toNat) := ⟨_, rfl⟩
              replace H : (spec_Apart.l1 k1 l0 l0 (l0.length : Int) x9_1 y266 (y266.length : Int) 0 ((rd_T31 l0 x9_1).f0) ((rd_T31 l0 x9_1).f1) ((rd_T31 l0 x9_1).f2)) = some r := by first | (rw [hy266]; with_reducible exact H) | (have H2_ := (Option.bind_some _ _).symm.trans H; rw [hy266]; with_reducible exact H2_) | (have H2_ := (Option.bind_some _ _).symm.trans H; with_reducible exact H2_) | with_reducible exact H | (rw [hy266]; exact H) | exact H
              have Ny266 := Aside0.mk hy266
              clear hy266
              have H' := Aside0.mk H
              clear H
              have p264 : 0 ≤ (x9_1 : Int) := of_decide_eq_true (by first | (with_reducible assumption) | assumption)
              have q264 : x9_1 < (l0.length : Int) := of_decide_eq_true (by first | (with_reducible assumption) | assumption)
              obtain ⟨ad264, A264_2, c264_2, e264, hx264_0, hx264_1, hx264_2, hl264_2, hi264_2⟩ := at_T31 HR0.out x9_1 p264 q264
              cases e264
              replace hx264_0 := (HB.out.cell (World.block_lt_of_cell? w _ hx264_0)).trans hx264_0
              replace hx264_1 := (HB.out.cell (World.block_lt_of_cell? w _ hx264_1)).trans hx264_1
              replace hx264_2 := (HB.out.cell (World.block_lt_of_cell? w _ hx264_2)).trans hx264_2
              have HR264_2 := Aside0.mk hi264_2
              have HC264_2 := Aside0.mk hl264_2
              clear hi264_2 hl264_2
              replace p264 := eq_true p264
              replace q264 := eq_true q264
              go_wp2_with (first | ((with_reducible refine gate_dst (N := 4) rfl ?_); refine box_event ?hg (N := 4) ?hd (cs := #[.int .i64 0, .int .i64 0, .slice none 0 0]) (t := 31) ?hr ?_; (case hd => rfl); (case hg => rfl); (case hr => first | (go_simp; done) | (go_simp; rfl)); intro gb265 hg w7 hbox hb; have n0_ := Aside0.mk (below_step (by repeat (first | (with_reducible first | exact HB.out | apply below_alloc | apply pw_below_drewN | apply below_drew1) | exact HB.out)) hb); have n1_ := Aside0.mk (hbox); have n2_ := Aside0.mk ((by rw [hg]; exact (below_size (by repeat (first | (with_reducible first | exact HB.out | apply below_alloc | apply pw_below_drewN | apply below_drew1) | exact HB.out))) : w.heap.size ≤ gb265)); have n3_ := Aside0.mk ((by rw [hg]; exact (below_size (by repeat (first | (with_reducible first | exact HB.out | apply below_alloc | apply pw_below_drewN | apply below_drew1) | exact HB.out))) : w.heap.size ≤ gb265)); clear HB; have HB := n0_; have BK265 := n1_; have GW265 := n2_; have GE265 := n3_; clear n0_ n1_ n2_ n3_; clear hb hbox hg; have hcz8_0 : w7.cell? ⟨gb265, 0, none⟩ = some (.int .i64 0) := (blk_cell BK265.out 0).trans rfl; have hcz8_1 : w7.cell? ⟨gb265, 1, none⟩ = some (.int .i64 0) := (blk_cell BK265.out 1).trans rfl; have hcz8_2 : w7.cell? ⟨gb265, 2, none⟩ = some (.slice none 0 0) := (blk_cell BK265.out 2).trans rfl; have hfz8_0 := blk_frozen BK265.out 0; have hfz8_1 := blk_frozen BK265.out 1; have hfz8_2 := blk_frozen BK265.out 2) | ((with_reducible refine gate_store (t := 31) (p := 4) rfl ?_); refine store_event (t := 31) (p := 4) (v := ?vo_w9) (w1 := (((w7.setCell ⟨gb265, 0, none⟩ (.int .i64 ((rd_T31 l0 x9_1).f0))).setCell ⟨gb265, 1, none⟩ (.int .i64 ((rd_T31 l0 x9_1).f1))).setCell ⟨gb265, 2, none⟩ (.slice A264_2 ((rd_T31 l0 x9_1).f2).length c264_2))) ?hg ?ho ?hn ?hr ?_; (case ho => rfl); (case hg => rfl); (case hn => rfl); (case hr => first | (go_simp; done) | (go_simp; rfl)); intro w9 hw; have n0_ : Aside0 (w9.heap[gb265]? = some (.cells #[.int .i64 ((rd_T31 l0 x9_1).f0), .int .i64 ((rd_T31 l0 x9_1).f1), .slice A264_2 ((rd_T31 l0 x9_1).f2).length c264_2] 31 (0, 0))) := ⟨(by rw [hw]; exact (by (with_reducible repeat (first | refine blk_drewN ?_ _ | refine blk_drew ?_ | refine blk_alloc ?_ _)); refine blk_put (cs := #[.int .i64 ((rd_T31 l0 x9_1).f0), .int .i64 ((rd_T31 l0 x9_1).f1), .slice none 0 0]) ?_ 2 _ rfl; (with_reducible repeat (first | refine blk_drewN ?_ _ | refine blk_drew ?_ | refine blk_alloc ?_ _)); refine blk_put (cs := #[.int .i64 ((rd_T31 l0 x9_1).f0), .int .i64 0, .slice none 0 0]) ?_ 1 _ rfl; (with_reducible repeat (first | refine blk_drewN ?_ _ | refine blk_drew ?_ | refine blk_alloc ?_ _)); refine blk_put (cs := #[.int .i64 0, .int .i64 0, .slice none 0 0]) ?_ 0 _ rfl; (with_reducible repeat (first | refine blk_drewN ?_ _ | refine blk_drew ?_ | refine blk_alloc ?_ _)); exact BK265.out))⟩; have n1_ : Aside0 (Below w.heap.size w w9) := ⟨(by rw [hw]; exact (by repeat (first | (with_reducible first | exact HB.out | apply below_alloc | apply pw_below_drewN | apply below_drew1 | refine below_set ?_ GE265.out) | exact HB.out)))⟩; clear hw; clear BK265; clear HB; have BK265 := n0_; have HB := n1_; clear n0_ n1_; have q10 : (x9_1 : Int) ≤ ((l0.length : Int) : Int) := of_decide_eq_true (by first | (with_reducible assumption) | assumption); obtain ⟨i010, hi010, _, hsz10, _⟩ := info_parts info31; have hroom10 : l0.length ≤ c0 := HC0.out; have hC10 : Kd.C k31 _ (some ad264) l0.length l0 := HR0.out; have hcut10 := cut_to (P := Try.prog) 22 31 .i64 Try.underlying22 hi010 (some ad264) l0.length c0 x9_1 (of_decide_eq_true (by first | (with_reducible assumption) | assumption)) q10 hroom10; have hr10 := Kd.C_take (m := (x9_1 : Int).toNat) hC10 (by omega); have hy10 : y266.length = (x9_1 : Int).toNat := (by rw [Ny266.out, List.length_take]; omega); rw [← Ny266.out] at hr10; rw [← hy10] at hcut10; have HR269 := Aside0.mk hr10; have HC269 := Aside0.mk (show y266.length ≤ c0 from by omega); clear hr10 hC10 hroom10 hi010 hsz10; have KY10 := Aside0.mk hy10; clear hy10; replace q10 := eq_true q10))
              go_loopg [18] k1 (fun kq v18 w' => ∃ (x18_2 : Int), v18 = .int .i64 x18_2 ∧ Aside0 (spec_Apart.l1 kq l0 l0 (l0.length : Int) x9_1 y266 (y266.length : Int) x18_2 ((rd_T31 l0 x9_1).f0) ((rd_T31 l0 x9_1).f1) ((rd_T31 l0 x9_1).f2) = some r) ∧ Aside0 (kq ≤ k1) ∧ Aside0 (w'.heap[gb265]? = some (.cells #[.int .i64 ((rd_T31 l0 x9_1).f0), .int .i64 ((rd_T31 l0 x9_1).f1), (.slice A264_2 ((rd_T31 l0 x9_1).f2).length c264_2)] 31 (0, 0))) ∧ Aside0 (Below w.heap.size w w'))
              case atStart => exact ⟨(0), (by first | rfl | (simp; done) | (simp [*]; done)), H', ⟨Nat.le_refl _⟩, ⟨by (with_reducible repeat (first | refine blk_drewN ?_ _ | refine blk_drew ?_ | refine blk_alloc ?_ _)); exact BK265.out⟩, ⟨by repeat (first | (with_reducible first | exact HB.out | apply below_alloc | apply pw_below_drewN | apply below_drew1 | refine below_set ?_ GE265.out) | exact HB.out)⟩⟩
              case round =>
                clear H'
                try clear c1
                try clear q1
                try clear c2
                try clear c2b0
                try clear p2
                try clear q2
                try clear hx2
                try clear c3
                try clear c3b0
                try clear c4
                try clear c4b0
                try clear c5
                try clear c5b0
                try clear c6
                try clear c6b0
                try clear c6b1
                try clear q10
                try clear hcz8_0
                try clear hcz8_1
                try clear hcz8_2
                try clear hfz8_0
                try clear hfz8_1
                try clear hfz8_2
                try clear hx264_0
                try clear hx264_1
                try clear hx264_2
                try clear p264
                try clear q10
                try clear q264
                obtain ⟨x18_2, rfl, HA, HK2, BK265, HB⟩ := hrel
                cases gk with
                | zero => exact absurd HA.out (by simp [spec_Apart.l1])
                | succ k2 =>
                  have H := HA.out
                  clear HA
                  simp only [spec_Apart.l1] at H
                  by_cases c11 : x18_2 < (y266.length : Int)
                  · rw [if_pos c11] at H
                    have c11b0 : decide (x18_2 < (y266.length : Int)) = true := decide_eq_true c11
                    clear c11
                    by_cases c12 : 0 ≤ x18_2
                    · rw [if_pos c12] at H
                      have c12b0 : decide (0 ≤ x18_2) = true := decide_eq_true c12
                      clear c12
                      by_cases c13 : x18_2 < (y266.length : Int)
                      · rw [if_pos c13] at H
                        have c13b0 : decide (x18_2 < (y266.length : Int)) = true := decide_eq_true c13
                        clear c13
                        by_cases c14 : ((rd_T31 l0 x9_1).f0) = 5
                        · rw [if_pos c14] at H
                          have c14b0 : (((rd_T31 l0 x9_1).f0) == 5) = true := beq_iff_eq.mpr c14
                          have c14b1 : (((rd_T31 l0 x9_1).f0) != 5) = false := bne_eq_false_iff_eq.mpr c14
                          clear c14
                          by_cases c15 : ((rd_T31 y266 x18_2).f0) = 5
                          · rw [if_pos c15] at H
                            have c15b0 : (((rd_T31 y266 x18_2).f0) == 5) = true := beq_iff_eq.mpr c15
                            have c15b1 : (((rd_T31 y266 x18_2).f0) != 5) = false := bne_eq_false_iff_eq.mpr c15
                            clear c15
                            by_cases c16 : ((rd_T31 l0 x9_1).f1) = ((rd_T31 y266 x18_2).f1)
                            · rw [if_pos c16] at H
                              have c16b0 : (((rd_T31 l0 x9_1).f1) == ((rd_T31 y266 x18_2).f1)) = true := beq_iff_eq.mpr c16
                              have c16b1 : (((rd_T31 l0 x9_1).f1) != ((rd_T31 y266 x18_2).f1)) = false := bne_eq_false_iff_eq.mpr c16
                              clear c16
                              obtain rfl := Option.some.inj H
                              have p270 : 0 ≤ (x18_2 : Int) := of_decide_eq_true (by first | (with_reducible assumption) | assumption)
                              have q270 : x18_2 < (y266.length : Int) := of_decide_eq_true (by first | (with_reducible assumption) | assumption)
                              obtain ⟨ad270, A270_2, c270_2, e270, hx270_0, hx270_1, hx270_2, hl270_2, hi270_2⟩ := at_T31 HR269.out x18_2 p270 q270
                              obtain rfl : ad264 = ad270 := (by injection e270)
                              replace hx270_0 := (HB.out.cell (World.block_lt_of_cell? w _ hx270_0)).trans hx270_0
                              replace hx270_1 := (HB.out.cell (World.block_lt_of_cell? w _ hx270_1)).trans hx270_1
                              replace hx270_2 := (HB.out.cell (World.block_lt_of_cell? w _ hx270_2)).trans hx270_2
                              have HR270_2 := Aside0.mk hi270_2
                              have HC270_2 := Aside0.mk hl270_2
                              clear hi270_2 hl270_2
                              replace p270 := eq_true p270
                              replace q270 := eq_true q270
                              go_wp2_with (first | ((with_reducible refine gate_dst (N := 6) rfl ?_); refine box_event ?hg (N := 6) ?hd (cs := #[.int .i64 0, .int .i64 0, .slice none 0 0]) (t := 31) ?hr ?_; (case hd => rfl); (case hg => rfl); (case hr => first | (go_simp; done) | (go_simp; rfl)); intro gb271 hg w17 hbox hb; have n0_ := Aside0.mk (blk_below (g := gb265) (o := .cells #[.int .i64 ((rd_T31 l0 x9_1).f0), .int .i64 ((rd_T31 l0 x9_1).f1), .slice A264_2 ((rd_T31 l0 x9_1).f2).length c264_2] 31 (0, 0)) (by (with_reducible repeat (first | refine blk_drewN ?_ _ | refine blk_drew ?_ | refine blk_alloc ?_ _)); exact BK265.out) hb); have n1_ := Aside0.mk (below_step (by repeat (first | (with_reducible first | exact HB.out | apply below_alloc | apply pw_below_drewN | apply below_drew1 | refine below_set ?_ GE265.out) | exact HB.out)) hb); have n2_ := Aside0.mk (hbox); have n3_ := Aside0.mk ((by rw [hg]; exact (below_size (by repeat (first | (with_reducible first | exact HB.out | apply below_alloc | apply pw_below_drewN | apply below_drew1 | refine below_set ?_ GE265.out) | exact HB.out))) : w.heap.size ≤ gb271)); have n4_ := Aside0.mk ((by rw [hg]; exact (below_size (by repeat (first | (with_reducible first | exact HB.out | apply below_alloc | apply pw_below_drewN | apply below_drew1 | refine below_set ?_ GE265.out) | exact HB.out))) : w.heap.size ≤ gb271)); have n5_ := Aside0.mk ((by rw [hg]; exact Nat.ne_of_lt (blk_lt (g := gb265) (o := .cells #[.int .i64 ((rd_T31 l0 x9_1).f0), .int .i64 ((rd_T31 l0 x9_1).f1), .slice A264_2 ((rd_T31 l0 x9_1).f2).length c264_2] 31 (0, 0)) (by (with_reducible repeat (first | refine blk_drewN ?_ _ | refine blk_drew ?_ | refine blk_alloc ?_ _)); exact BK265.out)) : gb265 ≠ gb271)); have n6_ := Aside0.mk ((by rw [hg]; exact Nat.ne_of_gt (blk_lt (g := gb265) (o := .cells #[.int .i64 ((rd_T31 l0 x9_1).f0), .int .i64 ((rd_T31 l0 x9_1).f1), .slice A264_2 ((rd_T31 l0 x9_1).f2).length c264_2] 31 (0, 0)) (by (with_reducible repeat (first | refine blk_drewN ?_ _ | refine blk_drew ?_ | refine blk_alloc ?_ _)); exact BK265.out)) : gb271 ≠ gb265)); clear BK265; clear HB; have BK265 := n0_; have HB := n1_; have BK271 := n2_; have GW271 := n3_; have GE271 := n4_; have NB265_271 := n5_; have NB271_265 := n6_; clear n0_ n1_ n2_ n3_ n4_ n5_ n6_; clear hb hbox hg; have hnb18 := NB271_265.out; have hnc18 := NB265_271.out; have hcz19_0 : w17.cell? ⟨gb271, 0, none⟩ = some (.int .i64 0) := (blk_cell BK271.out 0).trans rfl; have hcz19_1 : w17.cell? ⟨gb271, 1, none⟩ = some (.int .i64 0) := (blk_cell BK271.out 1).trans rfl; have hcz19_2 : w17.cell? ⟨gb271, 2, none⟩ = some (.slice none 0 0) := (blk_cell BK271.out 2).trans rfl; have hfz19_0 := blk_frozen BK271.out 0; have hfz19_1 := blk_frozen BK271.out 1; have hfz19_2 := blk_frozen BK271.out 2; have hcz20_0 : w17.cell? ⟨gb265, 0, none⟩ = some (.int .i64 ((rd_T31 l0 x9_1).f0)) := (blk_cell BK265.out 0).trans rfl; have hcz20_1 : w17.cell? ⟨gb265, 1, none⟩ = some (.int .i64 ((rd_T31 l0 x9_1).f1)) := (blk_cell BK265.out 1).trans rfl; have hcz20_2 : w17.cell? ⟨gb265, 2, none⟩ = some (.slice A264_2 ((rd_T31 l0 x9_1).f2).length c264_2) := (blk_cell BK265.out 2).trans rfl; have hfz20_0 := blk_frozen BK265.out 0; have hfz20_1 := blk_frozen BK265.out 1; have hfz20_2 := blk_frozen BK265.out 2))
                              go_ret
                              exact ⟨by first | rfl | (simp [errW_none, errW_some] <;> rfl) | (simp [*, errW_none, errW_some] <;> rfl), by repeat (first | (with_reducible first | exact HB.out | apply below_alloc | apply pw_below_drewN | apply below_drew1 | refine below_set ?_ GE265.out | refine below_set ?_ GE271.out) | exact HB.out)⟩
                            · rw [if_neg c16] at H
                              have c16b0 : (((rd_T31 l0 x9_1).f1) == ((rd_T31 y266 x18_2).f1)) = false := beq_eq_false_iff_ne.mpr c16
                              have c16b1 : (((rd_T31 l0 x9_1).f1) != ((rd_T31 y266 x18_2).f1)) = true := bne_iff_ne.mpr c16
                              have H' := Aside0.mk H
                              clear H
                              have p270 : 0 ≤ (x18_2 : Int) := of_decide_eq_true (by first | (with_reducible assumption) | assumption)
                              have q270 : x18_2 < (y266.length : Int) := of_decide_eq_true (by first | (with_reducible assumption) | assumption)
                              obtain ⟨ad270, A270_2, c270_2, e270, hx270_0, hx270_1, hx270_2, hl270_2, hi270_2⟩ := at_T31 HR269.out x18_2 p270 q270
                              obtain rfl : ad264 = ad270 := (by injection e270)
                              replace hx270_0 := (HB.out.cell (World.block_lt_of_cell? w _ hx270_0)).trans hx270_0
                              replace hx270_1 := (HB.out.cell (World.block_lt_of_cell? w _ hx270_1)).trans hx270_1
                              replace hx270_2 := (HB.out.cell (World.block_lt_of_cell? w _ hx270_2)).trans hx270_2
                              have HR270_2 := Aside0.mk hi270_2
                              have HC270_2 := Aside0.mk hl270_2
                              clear hi270_2 hl270_2
                              replace p270 := eq_true p270
                              replace q270 := eq_true q270
                              go_wp2_with (first | ((with_reducible refine gate_dst (N := 6) rfl ?_); refine box_event ?hg (N := 6) ?hd (cs := #[.int .i64 0, .int .i64 0, .slice none 0 0]) (t := 31) ?hr ?_; (case hd => rfl); (case hg => rfl); (case hr => first | (go_simp; done) | (go_simp; rfl)); intro gb271 hg w21 hbox hb; have n0_ := Aside0.mk (blk_below (g := gb265) (o := .cells #[.int .i64 ((rd_T31 l0 x9_1).f0), .int .i64 ((rd_T31 l0 x9_1).f1), .slice A264_2 ((rd_T31 l0 x9_1).f2).length c264_2] 31 (0, 0)) (by (with_reducible repeat (first | refine blk_drewN ?_ _ | refine blk_drew ?_ | refine blk_alloc ?_ _)); exact BK265.out) hb); have n1_ := Aside0.mk (below_step (by repeat (first | (with_reducible first | exact HB.out | apply below_alloc | apply pw_below_drewN | apply below_drew1 | refine below_set ?_ GE265.out) | exact HB.out)) hb); have n2_ := Aside0.mk (hbox); have n3_ := Aside0.mk ((by rw [hg]; exact (below_size (by repeat (first | (with_reducible first | exact HB.out | apply below_alloc | apply pw_below_drewN | apply below_drew1 | refine below_set ?_ GE265.out) | exact HB.out))) : w.heap.size ≤ gb271)); have n4_ := Aside0.mk ((by rw [hg]; exact (below_size (by repeat (first | (with_reducible first | exact HB.out | apply below_alloc | apply pw_below_drewN | apply below_drew1 | refine below_set ?_ GE265.out) | exact HB.out))) : w.heap.size ≤ gb271)); have n5_ := Aside0.mk ((by rw [hg]; exact Nat.ne_of_lt (blk_lt (g := gb265) (o := .cells #[.int .i64 ((rd_T31 l0 x9_1).f0), .int .i64 ((rd_T31 l0 x9_1).f1), .slice A264_2 ((rd_T31 l0 x9_1).f2).length c264_2] 31 (0, 0)) (by (with_reducible repeat (first | refine blk_drewN ?_ _ | refine blk_drew ?_ | refine blk_alloc ?_ _)); exact BK265.out)) : gb265 ≠ gb271)); have n6_ := Aside0.mk ((by rw [hg]; exact Nat.ne_of_gt (blk_lt (g := gb265) (o := .cells #[.int .i64 ((rd_T31 l0 x9_1).f0), .int .i64 ((rd_T31 l0 x9_1).f1), .slice A264_2 ((rd_T31 l0 x9_1).f2).length c264_2] 31 (0, 0)) (by (with_reducible repeat (first | refine blk_drewN ?_ _ | refine blk_drew ?_ | refine blk_alloc ?_ _)); exact BK265.out)) : gb271 ≠ gb265)); clear BK265; clear HB; have BK265 := n0_; have HB := n1_; have BK271 := n2_; have GW271 := n3_; have GE271 := n4_; have NB265_271 := n5_; have NB271_265 := n6_; clear n0_ n1_ n2_ n3_ n4_ n5_ n6_; clear hb hbox hg; have hnb22 := NB271_265.out; have hnc22 := NB265_271.out; have hcz23_0 : w21.cell? ⟨gb271, 0, none⟩ = some (.int .i64 0) := (blk_cell BK271.out 0).trans rfl; have hcz23_1 : w21.cell? ⟨gb271, 1, none⟩ = some (.int .i64 0) := (blk_cell BK271.out 1).trans rfl; have hcz23_2 : w21.cell? ⟨gb271, 2, none⟩ = some (.slice none 0 0) := (blk_cell BK271.out 2).trans rfl; have hfz23_0 := blk_frozen BK271.out 0; have hfz23_1 := blk_frozen BK271.out 1; have hfz23_2 := blk_frozen BK271.out 2; have hcz24_0 : w21.cell? ⟨gb265, 0, none⟩ = some (.int .i64 ((rd_T31 l0 x9_1).f0)) := (blk_cell BK265.out 0).trans rfl; have hcz24_1 : w21.cell? ⟨gb265, 1, none⟩ = some (.int .i64 ((rd_T31 l0 x9_1).f1)) := (blk_cell BK265.out 1).trans rfl; have hcz24_2 : w21.cell? ⟨gb265, 2, none⟩ = some (.slice A264_2 ((rd_T31 l0 x9_1).f2).length c264_2) := (blk_cell BK265.out 2).trans rfl; have hfz24_0 := blk_frozen BK265.out 0; have hfz24_1 := blk_frozen BK265.out 1; have hfz24_2 := blk_frozen BK265.out 2))
                              go_roundg k2
                              case measure => have := HK1.out; have := HK2.out; omega
                              case rel => exact ⟨(wrap64 (x18_2 + 1)), (by first | rfl | (simp; done) | (simp [*]; done)), H', ⟨by have := HK1.out; have := HK2.out; omega⟩, ⟨by (with_reducible repeat (first | refine blk_drewN ?_ _ | refine blk_drew ?_ | refine blk_alloc ?_ _)); refine blk_far ?_ NB265_271.out _; (with_reducible repeat (first | refine blk_drewN ?_ _ | refine blk_drew ?_ | refine blk_alloc ?_ _)); refine blk_far ?_ NB265_271.out _; (with_reducible repeat (first | refine blk_drewN ?_ _ | refine blk_drew ?_ | refine blk_alloc ?_ _)); refine blk_far ?_ NB265_271.out _; (with_reducible repeat (first | refine blk_drewN ?_ _ | refine blk_drew ?_ | refine blk_alloc ?_ _)); exact BK265.out⟩, ⟨by repeat (first | (with_reducible first | exact HB.out | apply below_alloc | apply pw_below_drewN | apply below_drew1 | refine below_set ?_ GE265.out | refine below_set ?_ GE271.out) | exact HB.out)⟩⟩
                          · rw [if_neg c15] at H
                            have c15b0 : (((rd_T31 y266 x18_2).f0) == 5) = false := beq_eq_false_iff_ne.mpr c15
                            have c15b1 : (((rd_T31 y266 x18_2).f0) != 5) = true := bne_iff_ne.mpr c15
                            have H' := Aside0.mk H
                            clear H
                            have p270 : 0 ≤ (x18_2 : Int) := of_decide_eq_true (by first | (with_reducible assumption) | assumption)
                            have q270 : x18_2 < (y266.length : Int) := of_decide_eq_true (by first | (with_reducible assumption) | assumption)
                            obtain ⟨ad270, A270_2, c270_2, e270, hx270_0, hx270_1, hx270_2, hl270_2, hi270_2⟩ := at_T31 HR269.out x18_2 p270 q270
                            obtain rfl : ad264 = ad270 := (by injection e270)
                            replace hx270_0 := (HB.out.cell (World.block_lt_of_cell? w _ hx270_0)).trans hx270_0
                            replace hx270_1 := (HB.out.cell (World.block_lt_of_cell? w _ hx270_1)).trans hx270_1
                            replace hx270_2 := (HB.out.cell (World.block_lt_of_cell? w _ hx270_2)).trans hx270_2
                            have HR270_2 := Aside0.mk hi270_2
                            have HC270_2 := Aside0.mk hl270_2
                            clear hi270_2 hl270_2
                            replace p270 := eq_true p270
                            replace q270 := eq_true q270
                            go_wp2_with (first | ((with_reducible refine gate_dst (N := 6) rfl ?_); refine box_event ?hg (N := 6) ?hd (cs := #[.int .i64 0, .int .i64 0, .slice none 0 0]) (t := 31) ?hr ?_; (case hd => rfl); (case hg => rfl); (case hr => first | (go_simp; done) | (go_simp; rfl)); intro gb271 hg w25 hbox hb; have n0_ := Aside0.mk (blk_below (g := gb265) (o := .cells #[.int .i64 ((rd_T31 l0 x9_1).f0), .int .i64 ((rd_T31 l0 x9_1).f1), .slice A264_2 ((rd_T31 l0 x9_1).f2).length c264_2] 31 (0, 0)) (by (with_reducible repeat (first | refine blk_drewN ?_ _ | refine blk_drew ?_ | refine blk_alloc ?_ _)); exact BK265.out) hb); have n1_ := Aside0.mk (below_step (by repeat (first | (with_reducible first | exact HB.out | apply below_alloc | apply pw_below_drewN | apply below_drew1 | refine below_set ?_ GE265.out) | exact HB.out)) hb); have n2_ := Aside0.mk (hbox); have n3_ := Aside0.mk ((by rw [hg]; exact (below_size (by repeat (first | (with_reducible first | exact HB.out | apply below_alloc | apply pw_below_drewN | apply below_drew1 | refine below_set ?_ GE265.out) | exact HB.out))) : w.heap.size ≤ gb271)); have n4_ := Aside0.mk ((by rw [hg]; exact (below_size (by repeat (first | (with_reducible first | exact HB.out | apply below_alloc | apply pw_below_drewN | apply below_drew1 | refine below_set ?_ GE265.out) | exact HB.out))) : w.heap.size ≤ gb271)); have n5_ := Aside0.mk ((by rw [hg]; exact Nat.ne_of_lt (blk_lt (g := gb265) (o := .cells #[.int .i64 ((rd_T31 l0 x9_1).f0), .int .i64 ((rd_T31 l0 x9_1).f1), .slice A264_2 ((rd_T31 l0 x9_1).f2).length c264_2] 31 (0, 0)) (by (with_reducible repeat (first | refine blk_drewN ?_ _ | refine blk_drew ?_ | refine blk_alloc ?_ _)); exact BK265.out)) : gb265 ≠ gb271)); have n6_ := Aside0.mk ((by rw [hg]; exact Nat.ne_of_gt (blk_lt (g := gb265) (o := .cells #[.int .i64 ((rd_T31 l0 x9_1).f0), .int .i64 ((rd_T31 l0 x9_1).f1), .slice A264_2 ((rd_T31 l0 x9_1).f2).length c264_2] 31 (0, 0)) (by (with_reducible repeat (first | refine blk_drewN ?_ _ | refine blk_drew ?_ | refine blk_alloc ?_ _)); exact BK265.out)) : gb271 ≠ gb265)); clear BK265; clear HB; have BK265 := n0_; have HB := n1_; have BK271 := n2_; have GW271 := n3_; have GE271 := n4_; have NB265_271 := n5_; have NB271_265 := n6_; clear n0_ n1_ n2_ n3_ n4_ n5_ n6_; clear hb hbox hg; have hnb26 := NB271_265.out; have hnc26 := NB265_271.out; have hcz27_0 : w25.cell? ⟨gb271, 0, none⟩ = some (.int .i64 0) := (blk_cell BK271.out 0).trans rfl; have hcz27_1 : w25.cell? ⟨gb271, 1, none⟩ = some (.int .i64 0) := (blk_cell BK271.out 1).trans rfl; have hcz27_2 : w25.cell? ⟨gb271, 2, none⟩ = some (.slice none 0 0) := (blk_cell BK271.out 2).trans rfl; have hfz27_0 := blk_frozen BK271.out 0; have hfz27_1 := blk_frozen BK271.out 1; have hfz27_2 := blk_frozen BK271.out 2; have hcz28_0 : w25.cell? ⟨gb265, 0, none⟩ = some (.int .i64 ((rd_T31 l0 x9_1).f0)) := (blk_cell BK265.out 0).trans rfl; have hcz28_1 : w25.cell? ⟨gb265, 1, none⟩ = some (.int .i64 ((rd_T31 l0 x9_1).f1)) := (blk_cell BK265.out 1).trans rfl; have hcz28_2 : w25.cell? ⟨gb265, 2, none⟩ = some (.slice A264_2 ((rd_T31 l0 x9_1).f2).length c264_2) := (blk_cell BK265.out 2).trans rfl; have hfz28_0 := blk_frozen BK265.out 0; have hfz28_1 := blk_frozen BK265.out 1; have hfz28_2 := blk_frozen BK265.out 2))
                            go_roundg k2
                            case measure => have := HK1.out; have := HK2.out; omega
                            case rel => exact ⟨(wrap64 (x18_2 + 1)), (by first | rfl | (simp; done) | (simp [*]; done)), H', ⟨by have := HK1.out; have := HK2.out; omega⟩, ⟨by (with_reducible repeat (first | refine blk_drewN ?_ _ | refine blk_drew ?_ | refine blk_alloc ?_ _)); refine blk_far ?_ NB265_271.out _; (with_reducible repeat (first | refine blk_drewN ?_ _ | refine blk_drew ?_ | refine blk_alloc ?_ _)); refine blk_far ?_ NB265_271.out _; (with_reducible repeat (first | refine blk_drewN ?_ _ | refine blk_drew ?_ | refine blk_alloc ?_ _)); refine blk_far ?_ NB265_271.out _; (with_reducible repeat (first | refine blk_drewN ?_ _ | refine blk_drew ?_ | refine blk_alloc ?_ _)); exact BK265.out⟩, ⟨by repeat (first | (with_reducible first | exact HB.out | apply below_alloc | apply pw_below_drewN | apply below_drew1 | refine below_set ?_ GE265.out | refine below_set ?_ GE271.out) | exact HB.out)⟩⟩
                        · rw [if_neg c14] at H
                          have c14b0 : (((rd_T31 l0 x9_1).f0) == 5) = false := beq_eq_false_iff_ne.mpr c14
                          have c14b1 : (((rd_T31 l0 x9_1).f0) != 5) = true := bne_iff_ne.mpr c14
                          have H' := Aside0.mk H
                          clear H
                          have p270 : 0 ≤ (x18_2 : Int) := of_decide_eq_true (by first | (with_reducible assumption) | assumption)
                          have q270 : x18_2 < (y266.length : Int) := of_decide_eq_true (by first | (with_reducible assumption) | assumption)
                          obtain ⟨ad270, A270_2, c270_2, e270, hx270_0, hx270_1, hx270_2, hl270_2, hi270_2⟩ := at_T31 HR269.out x18_2 p270 q270
                          obtain rfl : ad264 = ad270 := (by injection e270)
                          replace hx270_0 := (HB.out.cell (World.block_lt_of_cell? w _ hx270_0)).trans hx270_0
                          replace hx270_1 := (HB.out.cell (World.block_lt_of_cell? w _ hx270_1)).trans hx270_1
                          replace hx270_2 := (HB.out.cell (World.block_lt_of_cell? w _ hx270_2)).trans hx270_2
                          have HR270_2 := Aside0.mk hi270_2
                          have HC270_2 := Aside0.mk hl270_2
                          clear hi270_2 hl270_2
                          replace p270 := eq_true p270
                          replace q270 := eq_true q270
                          go_wp2_with (first | ((with_reducible refine gate_dst (N := 6) rfl ?_); refine box_event ?hg (N := 6) ?hd (cs := #[.int .i64 0, .int .i64 0, .slice none 0 0]) (t := 31) ?hr ?_; (case hd => rfl); (case hg => rfl); (case hr => first | (go_simp; done) | (go_simp; rfl)); intro gb271 hg w29 hbox hb; have n0_ := Aside0.mk (blk_below (g := gb265) (o := .cells #[.int .i64 ((rd_T31 l0 x9_1).f0), .int .i64 ((rd_T31 l0 x9_1).f1), .slice A264_2 ((rd_T31 l0 x9_1).f2).length c264_2] 31 (0, 0)) (by (with_reducible repeat (first | refine blk_drewN ?_ _ | refine blk_drew ?_ | refine blk_alloc ?_ _)); exact BK265.out) hb); have n1_ := Aside0.mk (below_step (by repeat (first | (with_reducible first | exact HB.out | apply below_alloc | apply pw_below_drewN | apply below_drew1 | refine below_set ?_ GE265.out) | exact HB.out)) hb); have n2_ := Aside0.mk (hbox); have n3_ := Aside0.mk ((by rw [hg]; exact (below_size (by repeat (first | (with_reducible first | exact HB.out | apply below_alloc | apply pw_below_drewN | apply below_drew1 | refine below_set ?_ GE265.out) | exact HB.out))) : w.heap.size ≤ gb271)); have n4_ := Aside0.mk ((by rw [hg]; exact (below_size (by repeat (first | (with_reducible first | exact HB.out | apply below_alloc | apply pw_below_drewN | apply below_drew1 | refine below_set ?_ GE265.out) | exact HB.out))) : w.heap.size ≤ gb271)); have n5_ := Aside0.mk ((by rw [hg]; exact Nat.ne_of_lt (blk_lt (g := gb265) (o := .cells #[.int .i64 ((rd_T31 l0 x9_1).f0), .int .i64 ((rd_T31 l0 x9_1).f1), .slice A264_2 ((rd_T31 l0 x9_1).f2).length c264_2] 31 (0, 0)) (by (with_reducible repeat (first | refine blk_drewN ?_ _ | refine blk_drew ?_ | refine blk_alloc ?_ _)); exact BK265.out)) : gb265 ≠ gb271)); have n6_ := Aside0.mk ((by rw [hg]; exact Nat.ne_of_gt (blk_lt (g := gb265) (o := .cells #[.int .i64 ((rd_T31 l0 x9_1).f0), .int .i64 ((rd_T31 l0 x9_1).f1), .slice A264_2 ((rd_T31 l0 x9_1).f2).length c264_2] 31 (0, 0)) (by (with_reducible repeat (first | refine blk_drewN ?_ _ | refine blk_drew ?_ | refine blk_alloc ?_ _)); exact BK265.out)) : gb271 ≠ gb265)); clear BK265; clear HB; have BK265 := n0_; have HB := n1_; have BK271 := n2_; have GW271 := n3_; have GE271 := n4_; have NB265_271 := n5_; have NB271_265 := n6_; clear n0_ n1_ n2_ n3_ n4_ n5_ n6_; clear hb hbox hg; have hnb30 := NB271_265.out; have hnc30 := NB265_271.out; have hcz31_0 : w29.cell? ⟨gb271, 0, none⟩ = some (.int .i64 0) := (blk_cell BK271.out 0).trans rfl; have hcz31_1 : w29.cell? ⟨gb271, 1, none⟩ = some (.int .i64 0) := (blk_cell BK271.out 1).trans rfl; have hcz31_2 : w29.cell? ⟨gb271, 2, none⟩ = some (.slice none 0 0) := (blk_cell BK271.out 2).trans rfl; have hfz31_0 := blk_frozen BK271.out 0; have hfz31_1 := blk_frozen BK271.out 1; have hfz31_2 := blk_frozen BK271.out 2; have hcz32_0 : w29.cell? ⟨gb265, 0, none⟩ = some (.int .i64 ((rd_T31 l0 x9_1).f0)) := (blk_cell BK265.out 0).trans rfl; have hcz32_1 : w29.cell? ⟨gb265, 1, none⟩ = some (.int .i64 ((rd_T31 l0 x9_1).f1)) := (blk_cell BK265.out 1).trans rfl; have hcz32_2 : w29.cell? ⟨gb265, 2, none⟩ = some (.slice A264_2 ((rd_T31 l0 x9_1).f2).length c264_2) := (blk_cell BK265.out 2).trans rfl; have hfz32_0 := blk_frozen BK265.out 0; have hfz32_1 := blk_frozen BK265.out 1; have hfz32_2 := blk_frozen BK265.out 2))
                          go_roundg k2
                          case measure => have := HK1.out; have := HK2.out; omega
                          case rel => exact ⟨(wrap64 (x18_2 + 1)), (by first | rfl | (simp; done) | (simp [*]; done)), H', ⟨by have := HK1.out; have := HK2.out; omega⟩, ⟨by (with_reducible repeat (first | refine blk_drewN ?_ _ | refine blk_drew ?_ | refine blk_alloc ?_ _)); refine blk_far ?_ NB265_271.out _; (with_reducible repeat (first | refine blk_drewN ?_ _ | refine blk_drew ?_ | refine blk_alloc ?_ _)); refine blk_far ?_ NB265_271.out _; (with_reducible repeat (first | refine blk_drewN ?_ _ | refine blk_drew ?_ | refine blk_alloc ?_ _)); refine blk_far ?_ NB265_271.out _; (with_reducible repeat (first | refine blk_drewN ?_ _ | refine blk_drew ?_ | refine blk_alloc ?_ _)); exact BK265.out⟩, ⟨by repeat (first | (with_reducible first | exact HB.out | apply below_alloc | apply pw_below_drewN | apply below_drew1 | refine below_set ?_ GE265.out | refine below_set ?_ GE271.out) | exact HB.out)⟩⟩
                      · rw [if_neg c13] at H
                        exact absurd H (by simp)
                    · rw [if_neg c12] at H
                      exact absurd H (by simp)
                  · rw [if_neg c11] at H
                    have c11b0 : decide (x18_2 < (y266.length : Int)) = false := decide_eq_false c11
                    clear c11
                    have H' := Aside0.mk H
                    clear H
                    go_wp2
                    go_roundg k2
                    case measure => have := HK1.out; have := HK2.out; omega
                    case rel => exact ⟨(wrap64 (x9_1 + 1)), (by first | rfl | (simp; done) | (simp [*]; done)), H', ⟨by have := HK1.out; have := HK2.out; omega⟩, ⟨by repeat (first | (with_reducible first | exact HB.out | apply below_alloc | apply pw_below_drewN | apply below_drew1 | refine below_set ?_ GE265.out) | exact HB.out)⟩⟩
            · rw [if_neg c6] at H
              exact absurd H (by simp)
          · rw [if_neg c4] at H
            exact absurd H (by simp)
        · rw [if_neg c3] at H
          exact absurd H (by simp)
      · rw [if_neg c2] at H
        have c2b0 : decide (x9_1 < (l0.length : Int)) = false := decide_eq_false c2
        clear c2
        obtain rfl := Option.some.inj H
        go_wp2
        go_ret
        exact ⟨by first | rfl | (simp [errW_none, errW_some] <;> rfl) | (simp [*, errW_none, errW_some] <;> rfl), by repeat (first | (with_reducible first | exact HB.out | apply below_alloc | apply pw_below_drewN | apply below_drew1) | exact HB.out)⟩

/-! ### laws_FnMarkPending: function 6 -/
mutual
def laws_FnMarkPending.j0 : Nat → List (S31) → List (S34) → Bool → Option (Bool)
  | 0, _, _, _ => none
  | k + 1, x0, x3, x21 => if x21 = true then ((laws_marksWork.f).bind fun t278 => (some t278)) else ((impl_RunMarks.f x0).bind fun t279 => (if (t279.length : Int) = (x3.length : Int) then (laws_FnMarkPending.l0 k x3 t279 (t279.length : Int) 0) else (some false)))
def laws_FnMarkPending.l0 : Nat → List (S34) → List (S34) → Int → Int → Option (Bool)
  | 0, _, _, _, _ => none
  | k + 1, x3, x5, x31, x32 => if x32 < x31 then (if 0 ≤ x32 then (if x32 < (x5.length : Int) then (if x32 < (x3.length : Int) then (if ((rd_T34 x5 x32).f2) = ((rd_T34 x3 x32).f2) then (if ((rd_T34 x5 x32).f3) = ((rd_T34 x3 x32).f3) then (laws_FnMarkPending.l0 k x3 x5 x31 (wrap64 (x32 + 1))) else (some false)) else (some false)) else (none)) else (none)) else (none)) else ((laws_marksWork.f).bind fun t286 => (some t286))
end
def laws_FnMarkPending.f (k : Nat) (l0 : List (S31)) : Option (Bool) := (laws_zzFits1.f k l0).bind fun t272 => (if t272 = true then ((spec_Marks.f l0).bind fun bt273 => (if bt273.2 = true then ((spec_Apart.f k l0).bind fun t277 => (laws_FnMarkPending.j0 k l0 bt273.1 (!t277))) else (laws_FnMarkPending.j0 k l0 bt273.1 true))) else (some true))
theorem laws_FnMarkPending.mono_l : ∀ k, (∀ y0 y1 y2, LeO (laws_FnMarkPending.j0 k y0 y1 y2) (laws_FnMarkPending.j0 (k + 1) y0 y1 y2)) ∧ (∀ y0 y1 y2 y3, LeO (laws_FnMarkPending.l0 k y0 y1 y2 y3) (laws_FnMarkPending.l0 (k + 1) y0 y1 y2 y3))
  | 0 => ⟨fun _ _ _ r h => by simp [laws_FnMarkPending.j0] at h, fun _ _ _ _ r h => by simp [laws_FnMarkPending.l0] at h⟩
  | k + 1 => by
    obtain ⟨ih0, ih1⟩ := laws_FnMarkPending.mono_l k
    refine ⟨?_, ?_⟩
    · intro y0 y1 y2
      unfold laws_FnMarkPending.j0
      repeat' first
      | (with_reducible exact ih0 _ _ _)
      | (with_reducible exact ih1 _ _ _ _)
      | (with_reducible exact laws_zzFits1.mono _ _)
      | (with_reducible exact spec_Apart.mono _ _)
      | (with_reducible exact LeO.refl _)
      | (with_reducible exact LeO.none _)
      | (with_reducible refine LeO.ite ?_ ?_)
      | (with_reducible refine LeO.bind ?_ (fun _ => ?_))
      | exact ih0 _ _ _
      | exact ih1 _ _ _ _
      | exact laws_zzFits1.mono _ _
      | exact spec_Apart.mono _ _
      | exact LeO.none _
      | refine LeO.ite ?_ ?_
      | refine LeO.bind ?_ (fun _ => ?_)
    · intro y0 y1 y2 y3
      unfold laws_FnMarkPending.l0
      repeat' first
      | (with_reducible exact ih0 _ _ _)
      | (with_reducible exact ih1 _ _ _ _)
      | (with_reducible exact laws_zzFits1.mono _ _)
      | (with_reducible exact spec_Apart.mono _ _)
      | (with_reducible exact LeO.refl _)
      | (with_reducible exact LeO.none _)
      | (with_reducible refine LeO.ite ?_ ?_)
      | (with_reducible refine LeO.bind ?_ (fun _ => ?_))
      | exact ih0 _ _ _
      | exact ih1 _ _ _ _
      | exact laws_zzFits1.mono _ _
      | exact spec_Apart.mono _ _
      | exact LeO.none _
      | refine LeO.ite ?_ ?_
      | refine LeO.bind ?_ (fun _ => ?_)
theorem laws_FnMarkPending.mono : ∀ a0 k, LeO (laws_FnMarkPending.f k a0) (laws_FnMarkPending.f (k + 1) a0) := by
  intro a0 k
  obtain ⟨ih0, ih1⟩ := laws_FnMarkPending.mono_l k
  unfold laws_FnMarkPending.f
  repeat' first
      | (with_reducible exact ih0 _ _ _)
      | (with_reducible exact ih1 _ _ _ _)
      | (with_reducible exact laws_zzFits1.mono _ _)
      | (with_reducible exact spec_Apart.mono _ _)
      | (with_reducible exact LeO.refl _)
      | (with_reducible exact LeO.none _)
      | (with_reducible refine LeO.ite ?_ ?_)
      | (with_reducible refine LeO.bind ?_ (fun _ => ?_))
      | exact ih0 _ _ _
      | exact ih1 _ _ _ _
      | exact laws_zzFits1.mono _ _
      | exact spec_Apart.mono _ _
      | exact LeO.none _
      | refine LeO.ite ?_ ?_
      | refine LeO.bind ?_ (fun _ => ?_)
set_option maxHeartbeats 8000000 in
set_option maxRecDepth 100000 in
theorem laws_FnMarkPending.calls (k : Nat) (A0 : Option Addr) (c0 : Nat) (l0 : List (S31)) (r : Bool) (w : World) (hr0 : Kd.C k31 w A0 l0.length l0) (hc0 : l0.length ≤ c0) (h : laws_FnMarkPending.f k l0 = some r) :
    Calls Try.prog 6 #[.slice A0 l0.length c0] w fun e w' => e = .returned (.bool r) ∧ Below w.heap.size w w' := by
  have HR0 := Aside0.mk hr0
  have HC0 := Aside0.mk hc0
  clear hr0 hc0
  have HB := Aside0.mk (Below.refl w.heap.size w)
  have H : ((laws_zzFits1.f k l0).bind fun t272 => (if t272 = true then ((spec_Marks.f l0).bind fun bt273 => (if bt273.2 = true then ((spec_Apart.f k l0).bind fun t277 => (laws_FnMarkPending.j0 k l0 bt273.1 (!t277))) else (laws_FnMarkPending.j0 k l0 bt273.1 true))) else (some true))) = some r := h
  clear h
  replace H := Option.bind_eq_some_iff.mp H
  obtain ⟨t272, A20, H⟩ := H
  replace H : (if t272 = true then ((spec_Marks.f l0).bind fun bt273 => (if bt273.2 = true then ((spec_Apart.f k l0).bind fun t277 => (laws_FnMarkPending.j0 k l0 bt273.1 (!t277))) else (laws_FnMarkPending.j0 k l0 bt273.1 true))) else (some true)) = some r := H
  have A2 := Aside0.mk A20
  clear A20
  by_cases c3 : t272 = true
  · subst c3
    have H1 : ((spec_Marks.f l0).bind fun bt273 => (if bt273.2 = true then ((spec_Apart.f k l0).bind fun t277 => (laws_FnMarkPending.j0 k l0 bt273.1 (!t277))) else (laws_FnMarkPending.j0 k l0 bt273.1 true))) = some r := by rw [if_pos rfl] at H; exact H
    clear H
    have H := H1
    clear H1
    replace H := Option.bind_eq_some_iff.mp H
    obtain ⟨⟨t273, t274⟩, A40, H⟩ := H
    replace H : (if t274 = true then ((spec_Apart.f k l0).bind fun t277 => (laws_FnMarkPending.j0 k l0 t273 (!t277))) else (laws_FnMarkPending.j0 k l0 t273 true)) = some r := H
    have A4 := Aside0.mk A40
    clear A40
    have HC5 := Aside0.mk H
    clear H
    go_enter Try.func6, Try.ntmps6
    go_upto_region 4 with (first | (go_at_call 11; (with_reducible refine (laws_zzFits1.calls k _ _ l0 true _ ?side1 ?side2 A2.out).mono ?_); (case side1 => repeat (first | exact HR0.out | (with_reducible refine Kd.C_alloc ?_ _) | (with_reducible refine Kd.C_drewN ?_ _) | (with_reducible refine Kd.C_drew ?_))); (case side2 => exact HC0.out); rintro e w6 ⟨rfl, hb⟩; have n0_ := Aside0.mk (below_step (by repeat (first | (with_reducible first | exact HB.out | apply below_alloc | apply pw_below_drewN | apply below_drew1) | exact HB.out)) hb); clear HB; have HB := n0_; clear n0_; (try clear hb); (try clear hb2); (try clear hk); (try clear hi)) | (go_at_call 12; (with_reducible refine (spec_Marks.calls _ _ l0 t273 t274 _ ?side1 ?side2 A4.out).mono ?_); (case side1 => repeat (first | exact (Kd.C_below HR0.out HB.out) | (with_reducible refine Kd.C_alloc ?_ _) | (with_reducible refine Kd.C_drewN ?_ _) | (with_reducible refine Kd.C_drew ?_))); (case side2 => exact HC0.out); rintro e w7 ⟨v275, rfl, ho0, hb⟩; have n0_ := Aside0.mk (Kd.S_lower ho0 (below_size (by repeat (first | (with_reducible first | exact HB.out | apply below_alloc | apply pw_below_drewN | apply below_drew1) | exact HB.out)))); have n1_ := Aside0.mk (below_step (by repeat (first | (with_reducible first | exact HB.out | apply below_alloc | apply pw_below_drewN | apply below_drew1) | exact HB.out)) hb); clear HB; have HO276 := n0_; have HB := n1_; clear n0_ n1_; (try clear hb); (try clear hb2); (try clear hk); (try clear hi); (try clear ho0)))
    repeat (go_quiet (first | (go_at_call 11; (with_reducible refine (laws_zzFits1.calls k _ _ l0 true _ ?side1 ?side2 A2.out).mono ?_); (case side1 => repeat (first | exact HR0.out | (with_reducible refine Kd.C_alloc ?_ _) | (with_reducible refine Kd.C_drewN ?_ _) | (with_reducible refine Kd.C_drew ?_))); (case side2 => exact HC0.out); rintro e w6 ⟨rfl, hb⟩; have n0_ := Aside0.mk (below_step (by repeat (first | (with_reducible first | exact HB.out | apply below_alloc | apply pw_below_drewN | apply below_drew1) | exact HB.out)) hb); clear HB; have HB := n0_; clear n0_; (try clear hb); (try clear hb2); (try clear hk); (try clear hi)) | (go_at_call 12; (with_reducible refine (spec_Marks.calls _ _ l0 t273 t274 _ ?side1 ?side2 A4.out).mono ?_); (case side1 => repeat (first | exact (Kd.C_below HR0.out HB.out) | (with_reducible refine Kd.C_alloc ?_ _) | (with_reducible refine Kd.C_drewN ?_ _) | (with_reducible refine Kd.C_drew ?_))); (case side2 => exact HC0.out); rintro e w7 ⟨v275, rfl, ho0, hb⟩; have n0_ := Aside0.mk (Kd.S_lower ho0 (below_size (by repeat (first | (with_reducible first | exact HB.out | apply below_alloc | apply pw_below_drewN | apply below_drew1) | exact HB.out)))); have n1_ := Aside0.mk (below_step (by repeat (first | (with_reducible first | exact HB.out | apply below_alloc | apply pw_below_drewN | apply below_drew1) | exact HB.out)) hb); clear HB; have HO276 := n0_; have HB := n1_; clear n0_ n1_; (try clear hb); (try clear hb2); (try clear hk); (try clear hi); (try clear ho0))); go_upto_region 4 with (first | (go_at_call 11; (with_reducible refine (laws_zzFits1.calls k _ _ l0 true _ ?side1 ?side2 A2.out).mono ?_); (case side1 => repeat (first | exact HR0.out | (with_reducible refine Kd.C_alloc ?_ _) | (with_reducible refine Kd.C_drewN ?_ _) | (with_reducible refine Kd.C_drew ?_))); (case side2 => exact HC0.out); rintro e w6 ⟨rfl, hb⟩; have n0_ := Aside0.mk (below_step (by repeat (first | (with_reducible first | exact HB.out | apply below_alloc | apply pw_below_drewN | apply below_drew1) | exact HB.out)) hb); clear HB; have HB := n0_; clear n0_; (try clear hb); (try clear hb2); (try clear hk); (try clear hi)) | (go_at_call 12; (with_reducible refine (spec_Marks.calls _ _ l0 t273 t274 _ ?side1 ?side2 A4.out).mono ?_); (case side1 => repeat (first | exact (Kd.C_below HR0.out HB.out) | (with_reducible refine Kd.C_alloc ?_ _) | (with_reducible refine Kd.C_drewN ?_ _) | (with_reducible refine Kd.C_drew ?_))); (case side2 => exact HC0.out); rintro e w7 ⟨v275, rfl, ho0, hb⟩; have n0_ := Aside0.mk (Kd.S_lower ho0 (below_size (by repeat (first | (with_reducible first | exact HB.out | apply below_alloc | apply pw_below_drewN | apply below_drew1) | exact HB.out)))); have n1_ := Aside0.mk (below_step (by repeat (first | (with_reducible first | exact HB.out | apply below_alloc | apply pw_below_drewN | apply below_drew1) | exact HB.out)) hb); clear HB; have HO276 := n0_; have HB := n1_; clear n0_ n1_; (try clear hb); (try clear hb2); (try clear hk); (try clear hi); (try clear ho0))))
    (try simp only [Act.put, List.setIfInBounds_toArray, List.set_cons_zero, List.set_cons_succ])
    go_cut [21] (fun v21 wc => ∃ (kq : Nat) (x21_4 : Bool), v21 = .bool x21_4 ∧ Aside0 (laws_FnMarkPending.j0 kq l0 t273 x21_4 = some r) ∧ Aside0 (kq ≤ k) ∧ Aside0 (Kd.S k34 34 wc w.heap.size (fun _ => True) v275 t273) ∧ Aside0 (Below w.heap.size w wc))
    case first =>
      have H := HC5.out
      clear HC5
      by_cases c8 : t274 = true
      · subst c8
        have H1 : ((spec_Apart.f k l0).bind fun t277 => (laws_FnMarkPending.j0 k l0 t273 (!t277))) = some r := by rw [if_pos rfl] at H; exact H
        clear H
        have H := H1
        clear H1
        replace H := Option.bind_eq_some_iff.mp H
        obtain ⟨t277, A90, H⟩ := H
        replace H : (laws_FnMarkPending.j0 k l0 t273 (!t277)) = some r := H
        have A9 := Aside0.mk A90
        clear A90
        have H' := Aside0.mk H
        clear H
        go_wp2_with (first | (go_at_call 18; (with_reducible refine (spec_Apart.calls k _ _ l0 t277 _ ?side1 ?side2 A9.out).mono ?_); (case side1 => repeat (first | exact (Kd.C_below HR0.out HB.out) | (with_reducible refine Kd.C_alloc ?_ _) | (with_reducible refine Kd.C_drewN ?_ _) | (with_reducible refine Kd.C_drew ?_))); (case side2 => exact HC0.out); rintro e w10 ⟨rfl, hb⟩; have n0_ := Aside0.mk (Kd.S_below (by (with_reducible repeat (first | apply Kd.S_alloc | apply Kd.S_drewN | apply Kd.S_drew)); exact HO276.out) hb); have n1_ := Aside0.mk (below_step (by repeat (first | (with_reducible first | exact HB.out | apply below_alloc | apply pw_below_drewN | apply below_drew1) | exact HB.out)) hb); clear HO276; clear HB; have HO276 := n0_; have HB := n1_; clear n0_ n1_; (try clear hb); (try clear hb2); (try clear hk); (try clear hi)))
        repeat (go_quiet (first | (go_at_call 18; (with_reducible refine (spec_Apart.calls k _ _ l0 t277 _ ?side1 ?side2 A9.out).mono ?_); (case side1 => repeat (first | exact (Kd.C_below HR0.out HB.out) | (with_reducible refine Kd.C_alloc ?_ _) | (with_reducible refine Kd.C_drewN ?_ _) | (with_reducible refine Kd.C_drew ?_))); (case side2 => exact HC0.out); rintro e w10 ⟨rfl, hb⟩; have n0_ := Aside0.mk (Kd.S_below (by (with_reducible repeat (first | apply Kd.S_alloc | apply Kd.S_drewN | apply Kd.S_drew)); exact HO276.out) hb); have n1_ := Aside0.mk (below_step (by repeat (first | (with_reducible first | exact HB.out | apply below_alloc | apply pw_below_drewN | apply below_drew1) | exact HB.out)) hb); clear HO276; clear HB; have HO276 := n0_; have HB := n1_; clear n0_ n1_; (try clear hb); (try clear hb2); (try clear hk); (try clear hi))); try go_wp2_with (first | (go_at_call 18; (with_reducible refine (spec_Apart.calls k _ _ l0 t277 _ ?side1 ?side2 A9.out).mono ?_); (case side1 => repeat (first | exact (Kd.C_below HR0.out HB.out) | (with_reducible refine Kd.C_alloc ?_ _) | (with_reducible refine Kd.C_drewN ?_ _) | (with_reducible refine Kd.C_drew ?_))); (case side2 => exact HC0.out); rintro e w10 ⟨rfl, hb⟩; have n0_ := Aside0.mk (Kd.S_below (by (with_reducible repeat (first | apply Kd.S_alloc | apply Kd.S_drewN | apply Kd.S_drew)); exact HO276.out) hb); have n1_ := Aside0.mk (below_step (by repeat (first | (with_reducible first | exact HB.out | apply below_alloc | apply pw_below_drewN | apply below_drew1) | exact HB.out)) hb); clear HO276; clear HB; have HO276 := n0_; have HB := n1_; clear n0_ n1_; (try clear hb); (try clear hb2); (try clear hk); (try clear hi))))
        go_meet
        case rel => exact ⟨_, (!t277), (by first | rfl | (simp; done) | (simp [*]; done)), H', ⟨by first | omega | exact Nat.le_refl _⟩, ⟨by (with_reducible repeat (first | apply Kd.S_alloc | apply Kd.S_drewN | apply Kd.S_drew)); exact HO276.out⟩, ⟨by repeat (first | (with_reducible first | exact HB.out | apply below_alloc | apply pw_below_drewN | apply below_drew1) | exact HB.out)⟩⟩
      · replace c8 := Bool.eq_false_iff.mpr c8
        subst c8
        have H1 : (laws_FnMarkPending.j0 k l0 t273 true) = some r := by rw [if_neg (show ¬ (false = true) by decide)] at H; exact H
        clear H
        have H := H1
        clear H1
        have H' := Aside0.mk H
        clear H
        go_wp2
        repeat (go_quiet (fail); try go_wp2)
        go_meet
        case rel => exact ⟨_, (true), (by first | rfl | (simp; done) | (simp [*]; done)), H', ⟨by first | omega | exact Nat.le_refl _⟩, ⟨by (with_reducible repeat (first | apply Kd.S_alloc | apply Kd.S_drewN | apply Kd.S_drew)); exact HO276.out⟩, ⟨by repeat (first | (with_reducible first | exact HB.out | apply below_alloc | apply pw_below_drewN | apply below_drew1) | exact HB.out)⟩⟩
    case rest =>
      clear HC5
      try clear p2
      try clear c3
      try clear c6
      try clear c8
      obtain ⟨kq, x21_4, rfl, HA, HJ4, HO_3, HB⟩ := hcut
      cases kq with
      | zero => exact absurd HA.out (by simp [laws_FnMarkPending.j0])
      | succ kj4 =>
        have H := HA.out
        clear HA
        simp only [laws_FnMarkPending.j0] at H
        by_cases c11 : x21_4 = true
        · subst c11
          have H1 : ((laws_marksWork.f).bind fun t278 => (some t278)) = some r := by rw [if_pos rfl] at H; exact H
          clear H
          have H := H1
          clear H1
          replace H := Option.bind_eq_some_iff.mp H
          obtain ⟨t278, A120, H⟩ := H
          replace H : (some t278) = some r := H
          have A12 := Aside0.mk A120
          clear A120
          obtain rfl := Option.some.inj H
          go_wp2_with (first | (go_at_call 13; (with_reducible refine (laws_marksWork.calls  t278 _ A12.out).mono ?_); rintro e w13 ⟨rfl, hb⟩; have n0_ := Aside0.mk (Kd.S_below (by (with_reducible repeat (first | apply Kd.S_alloc | apply Kd.S_drewN | apply Kd.S_drew)); exact HO_3.out) hb); have n1_ := Aside0.mk (below_step (by repeat (first | (with_reducible first | exact HB.out | apply below_alloc | apply pw_below_drewN | apply below_drew1) | exact HB.out)) hb); clear HO_3; clear HB; have HO_3 := n0_; have HB := n1_; clear n0_ n1_; (try clear hb); (try clear hb2); (try clear hk); (try clear hi)))
          repeat (go_quiet (first | (go_at_call 13; (with_reducible refine (laws_marksWork.calls  t278 _ A12.out).mono ?_); rintro e w13 ⟨rfl, hb⟩; have n0_ := Aside0.mk (Kd.S_below (by (with_reducible repeat (first | apply Kd.S_alloc | apply Kd.S_drewN | apply Kd.S_drew)); exact HO_3.out) hb); have n1_ := Aside0.mk (below_step (by repeat (first | (with_reducible first | exact HB.out | apply below_alloc | apply pw_below_drewN | apply below_drew1) | exact HB.out)) hb); clear HO_3; clear HB; have HO_3 := n0_; have HB := n1_; clear n0_ n1_; (try clear hb); (try clear hb2); (try clear hk); (try clear hi))); try go_wp2_with (first | (go_at_call 13; (with_reducible refine (laws_marksWork.calls  t278 _ A12.out).mono ?_); rintro e w13 ⟨rfl, hb⟩; have n0_ := Aside0.mk (Kd.S_below (by (with_reducible repeat (first | apply Kd.S_alloc | apply Kd.S_drewN | apply Kd.S_drew)); exact HO_3.out) hb); have n1_ := Aside0.mk (below_step (by repeat (first | (with_reducible first | exact HB.out | apply below_alloc | apply pw_below_drewN | apply below_drew1) | exact HB.out)) hb); clear HO_3; clear HB; have HO_3 := n0_; have HB := n1_; clear n0_ n1_; (try clear hb); (try clear hb2); (try clear hk); (try clear hi))))
          go_ret
          exact ⟨by first | rfl | (simp [errW_none, errW_some] <;> rfl) | (simp [*, errW_none, errW_some] <;> rfl), by repeat (first | (with_reducible first | exact HB.out | apply below_alloc | apply pw_below_drewN | apply below_drew1) | exact HB.out)⟩
        · replace c11 := Bool.eq_false_iff.mpr c11
          subst c11
          have H1 : ((impl_RunMarks.f l0).bind fun t279 => (if (t279.length : Int) = (t273.length : Int) then (laws_FnMarkPending.l0 kj4 t273 t279 (t279.length : Int) 0) else (some false))) = some r := by rw [if_neg (show ¬ (false = true) by decide)] at H; exact H
          clear H
          have H := H1
          clear H1
          replace H := Option.bind_eq_some_iff.mp H
          obtain ⟨t279, A140, H⟩ := H
          replace H : (if (t279.length : Int) = (t273.length : Int) then (laws_FnMarkPending.l0 kj4 t273 t279 (t279.length : Int) 0) else (some false)) = some r := H
          have A14 := Aside0.mk A140
          clear A140
          by_cases c15 : (t279.length : Int) = (t273.length : Int)
          · rw [if_pos c15] at H
            have c15b0 : ((t279.length : Int) == (t273.length : Int)) = true := beq_iff_eq.mpr c15
            have c15b1 : ((t279.length : Int) != (t273.length : Int)) = false := bne_eq_false_iff_eq.mpr c15
            have c15b2 : (t279.length == t273.length) = true := by first | simpa using c15 | (simp at c15 ⊢; omega)
            clear c15
            have H' := Aside0.mk H
            clear H
            go_wp2_with (first | (go_at_call 14; (with_reducible refine (impl_RunMarks.calls _ _ l0 t279 _ ?side1 ?side2 A14.out).mono ?_); (case side1 => repeat (first | exact (Kd.C_below HR0.out HB.out) | (with_reducible refine Kd.C_alloc ?_ _) | (with_reducible refine Kd.C_drewN ?_ _) | (with_reducible refine Kd.C_drew ?_))); (case side2 => exact HC0.out); rintro e w16 ⟨v280, rfl, ho0, hb⟩; have n0_ := Aside0.mk (Kd.S_elder' (by (with_reducible repeat (first | apply Kd.S_alloc | apply Kd.S_drewN | apply Kd.S_drew)); exact HO_3.out) (Kd.S_base ho0) hb); have n1_ := Aside0.mk (Kd.S_lower (Kd.S_new' ho0 (Kd.S_lt (by (with_reducible repeat (first | apply Kd.S_alloc | apply Kd.S_drewN | apply Kd.S_drew)); exact HO_3.out))) (below_size (by repeat (first | (with_reducible first | exact HB.out | apply below_alloc | apply pw_below_drewN | apply below_drew1) | exact HB.out)))); have n2_ := Aside0.mk (below_step (by repeat (first | (with_reducible first | exact HB.out | apply below_alloc | apply pw_below_drewN | apply below_drew1) | exact HB.out)) hb); clear HO_3; clear HB; have HO_3 := n0_; have HO281 := n1_; have HB := n2_; clear n0_ n1_ n2_; (try clear hb); (try clear hb2); (try clear hk); (try clear hi); (try clear ho0); obtain ⟨Ao17, co17, eo17⟩ := Kd.S_slice HO281.out; subst eo17; obtain ⟨Ao18, co18, eo18⟩ := Kd.S_slice HO_3.out; subst eo18))
            repeat (go_quiet (first | (go_at_call 14; (with_reducible refine (impl_RunMarks.calls _ _ l0 t279 _ ?side1 ?side2 A14.out).mono ?_); (case side1 => repeat (first | exact (Kd.C_below HR0.out HB.out) | (with_reducible refine Kd.C_alloc ?_ _) | (with_reducible refine Kd.C_drewN ?_ _) | (with_reducible refine Kd.C_drew ?_))); (case side2 => exact HC0.out); rintro e w16 ⟨v280, rfl, ho0, hb⟩; have n0_ := Aside0.mk (Kd.S_elder' (by (with_reducible repeat (first | apply Kd.S_alloc | apply Kd.S_drewN | apply Kd.S_drew)); exact HO_3.out) (Kd.S_base ho0) hb); have n1_ := Aside0.mk (Kd.S_lower (Kd.S_new' ho0 (Kd.S_lt (by (with_reducible repeat (first | apply Kd.S_alloc | apply Kd.S_drewN | apply Kd.S_drew)); exact HO_3.out))) (below_size (by repeat (first | (with_reducible first | exact HB.out | apply below_alloc | apply pw_below_drewN | apply below_drew1) | exact HB.out)))); have n2_ := Aside0.mk (below_step (by repeat (first | (with_reducible first | exact HB.out | apply below_alloc | apply pw_below_drewN | apply below_drew1) | exact HB.out)) hb); clear HO_3; clear HB; have HO_3 := n0_; have HO281 := n1_; have HB := n2_; clear n0_ n1_ n2_; (try clear hb); (try clear hb2); (try clear hk); (try clear hi); (try clear ho0); obtain ⟨Ao17, co17, eo17⟩ := Kd.S_slice HO281.out; subst eo17; obtain ⟨Ao18, co18, eo18⟩ := Kd.S_slice HO_3.out; subst eo18)); try go_wp2_with (first | (go_at_call 14; (with_reducible refine (impl_RunMarks.calls _ _ l0 t279 _ ?side1 ?side2 A14.out).mono ?_); (case side1 => repeat (first | exact (Kd.C_below HR0.out HB.out) | (with_reducible refine Kd.C_alloc ?_ _) | (with_reducible refine Kd.C_drewN ?_ _) | (with_reducible refine Kd.C_drew ?_))); (case side2 => exact HC0.out); rintro e w16 ⟨v280, rfl, ho0, hb⟩; have n0_ := Aside0.mk (Kd.S_elder' (by (with_reducible repeat (first | apply Kd.S_alloc | apply Kd.S_drewN | apply Kd.S_drew)); exact HO_3.out) (Kd.S_base ho0) hb); have n1_ := Aside0.mk (Kd.S_lower (Kd.S_new' ho0 (Kd.S_lt (by (with_reducible repeat (first | apply Kd.S_alloc | apply Kd.S_drewN | apply Kd.S_drew)); exact HO_3.out))) (below_size (by repeat (first | (with_reducible first | exact HB.out | apply below_alloc | apply pw_below_drewN | apply below_drew1) | exact HB.out)))); have n2_ := Aside0.mk (below_step (by repeat (first | (with_reducible first | exact HB.out | apply below_alloc | apply pw_below_drewN | apply below_drew1) | exact HB.out)) hb); clear HO_3; clear HB; have HO_3 := n0_; have HO281 := n1_; have HB := n2_; clear n0_ n1_ n2_; (try clear hb); (try clear hb2); (try clear hk); (try clear hi); (try clear ho0); obtain ⟨Ao17, co17, eo17⟩ := Kd.S_slice HO281.out; subst eo17; obtain ⟨Ao18, co18, eo18⟩ := Kd.S_slice HO_3.out; subst eo18)))
            go_loopg [32] kj4 (fun kq v32 w' => ∃ (x32_2 : Int), v32 = .int .i64 x32_2 ∧ Aside0 (laws_FnMarkPending.l0 kq t273 t279 (t279.length : Int) x32_2 = some r) ∧ Aside0 (kq ≤ kj4) ∧ Aside0 (Kd.S k34 34 w' w.heap.size (fun k_ => some k_ ≠ ((.slice Ao17 t279.length co17) : Value).ownBlock) (.slice Ao18 t273.length co18) t273) ∧ Aside0 (Kd.S k34 34 w' w.heap.size (fun k_ => some k_ ≠ ((.slice Ao18 t273.length co18) : Value).ownBlock) (.slice Ao17 t279.length co17) t279) ∧ Aside0 (Below w.heap.size w w'))
            case atStart => exact ⟨(0), (by first | rfl | (simp; done) | (simp [*]; done)), H', ⟨Nat.le_refl _⟩, ⟨by (with_reducible repeat (first | apply Kd.S_alloc | apply Kd.S_drewN | apply Kd.S_drew)); exact Kd.S_mono HO_3.out (fun _ hk => hk.2)⟩, ⟨by (with_reducible repeat (first | apply Kd.S_alloc | apply Kd.S_drewN | apply Kd.S_drew)); exact Kd.S_mono HO281.out (fun _ hk => hk.2)⟩, ⟨by repeat (first | (with_reducible first | exact HB.out | apply below_alloc | apply pw_below_drewN | apply below_drew1) | exact HB.out)⟩⟩
            case round =>
              clear H'
              try clear c1
              try clear p2
              try clear c3
              try clear c6
              try clear c8
              try clear c11
              try clear c15
              try clear c15b0
              try clear c15b1
              try clear c15b2
              try clear p2
              obtain ⟨x32_2, rfl, HA, HK2, HO_3, HO_5, HB⟩ := hrel
              cases gk with
              | zero => exact absurd HA.out (by simp [laws_FnMarkPending.l0])
              | succ k2 =>
                have H := HA.out
                clear HA
                simp only [laws_FnMarkPending.l0] at H
                by_cases c19 : x32_2 < (t279.length : Int)
                · rw [if_pos c19] at H
                  have c19b0 : decide (x32_2 < (t279.length : Int)) = true := decide_eq_true c19
                  clear c19
                  by_cases c20 : 0 ≤ x32_2
                  · rw [if_pos c20] at H
                    have c20b0 : decide (0 ≤ x32_2) = true := decide_eq_true c20
                    clear c20
                    by_cases c21 : x32_2 < (t279.length : Int)
                    · rw [if_pos c21] at H
                      have c21b0 : decide (x32_2 < (t279.length : Int)) = true := decide_eq_true c21
                      clear c21
                      by_cases c22 : x32_2 < (t273.length : Int)
                      · rw [if_pos c22] at H
                        have c22b0 : decide (x32_2 < (t273.length : Int)) = true := decide_eq_true c22
                        clear c22
                        by_cases c23 : ((rd_T34 t279 x32_2).f2) = ((rd_T34 t273 x32_2).f2)
                        · rw [if_pos c23] at H
                          have c23b0 : (((rd_T34 t279 x32_2).f2) == ((rd_T34 t273 x32_2).f2)) = true := beq_iff_eq.mpr c23
                          have c23b1 : (((rd_T34 t279 x32_2).f2) != ((rd_T34 t273 x32_2).f2)) = false := bne_eq_false_iff_eq.mpr c23
                          clear c23
                          by_cases c24 : ((rd_T34 t279 x32_2).f3) = ((rd_T34 t273 x32_2).f3)
                          · rw [if_pos c24] at H
                            have c24b0 : (((rd_T34 t279 x32_2).f3) == ((rd_T34 t273 x32_2).f3)) = true := beq_iff_eq.mpr c24
                            have c24b1 : (((rd_T34 t279 x32_2).f3) != ((rd_T34 t273 x32_2).f3)) = false := bne_eq_false_iff_eq.mpr c24
                            clear c24
                            have H' := Aside0.mk H
                            clear H
                            have p282 : 0 ≤ (x32_2 : Int) := of_decide_eq_true (by first | (with_reducible assumption) | assumption)
                            have q282 : x32_2 < (t279.length : Int) := of_decide_eq_true (by first | (with_reducible assumption) | assumption)
                            obtain ⟨ad282, A282_4, c282_4, e282, hx282_0, hx282_1, hx282_2, hx282_3, hx282_4, hl282_4, hi282_4⟩ := at_T34 (Kd.S_reads' HO_5.out).2.2 x32_2 p282 q282
                            cases e282
                            obtain ⟨ce282, hce282, hMe282, hcc282⟩ := Kd.S_get HO_5.out z34 x32_2 p282 (by first | exact q282 | exact of_decide_eq_true (by first | (with_reducible assumption) | assumption) | (have e_ := (Kd.S_reads' HO_5.out).1; omega))
                            obtain ⟨ve282_4, rfl, ge282_4⟩ := k34_openM hMe282
                            have hv282_4 := hcc282 4 _ rfl
                            rw [add_field _ _ 4 (by omega)] at hv282_4
                            replace hv282_4 := Option.some.inj (hv282_4.symm.trans hx282_4)
                            rw [hv282_4] at ge282_4
                            have HL282_4 := Aside0.mk (show Kd.R Kd.bool 4 _ _ _ _ ((rd_T34 t279 x32_2).f4) from ge282_4)
                            clear hv282_4 ge282_4
                            clear hcc282 hce282
                            have HR282_4 := Aside0.mk hi282_4
                            have HC282_4 := Aside0.mk hl282_4
                            clear hi282_4 hl282_4
                            replace p282 := eq_true p282
                            replace q282 := eq_true q282
                            have p283 : 0 ≤ (x32_2 : Int) := of_decide_eq_true (by first | (with_reducible assumption) | assumption)
                            have q283 : x32_2 < (t273.length : Int) := of_decide_eq_true (by first | (with_reducible assumption) | assumption)
                            obtain ⟨ad283, A283_4, c283_4, e283, hx283_0, hx283_1, hx283_2, hx283_3, hx283_4, hl283_4, hi283_4⟩ := at_T34 (Kd.S_reads' HO_3.out).2.2 x32_2 p283 q283
                            cases e283
                            obtain ⟨ce283, hce283, hMe283, hcc283⟩ := Kd.S_get HO_3.out z34 x32_2 p283 (by first | exact q283 | exact of_decide_eq_true (by first | (with_reducible assumption) | assumption) | (have e_ := (Kd.S_reads' HO_3.out).1; omega))
                            obtain ⟨ve283_4, rfl, ge283_4⟩ := k34_openM hMe283
                            have hv283_4 := hcc283 4 _ rfl
                            rw [add_field _ _ 4 (by omega)] at hv283_4
                            replace hv283_4 := Option.some.inj (hv283_4.symm.trans hx283_4)
                            rw [hv283_4] at ge283_4
                            have HL283_4 := Aside0.mk (show Kd.R Kd.bool 4 _ _ _ _ ((rd_T34 t273 x32_2).f4) from ge283_4)
                            clear hv283_4 ge283_4
                            clear hcc283 hce283
                            have HR283_4 := Aside0.mk hi283_4
                            have HC283_4 := Aside0.mk hl283_4
                            clear hi283_4 hl283_4
                            replace p283 := eq_true p283
                            replace q283 := eq_true q283
                            have p284 : 0 ≤ (x32_2 : Int) := of_decide_eq_true (by first | (with_reducible assumption) | assumption)
                            have q284 : x32_2 < (t279.length : Int) := of_decide_eq_true (by first | (with_reducible assumption) | assumption)
                            obtain ⟨ad284, A284_4, c284_4, e284, hx284_0, hx284_1, hx284_2, hx284_3, hx284_4, hl284_4, hi284_4⟩ := at_T34 (Kd.S_reads' HO_5.out).2.2 x32_2 p284 q284
                            obtain rfl : ad282 = ad284 := (by injection e284)
                            obtain ⟨ce284, hce284, hMe284, hcc284⟩ := Kd.S_get HO_5.out z34 x32_2 p284 (by first | exact q284 | exact of_decide_eq_true (by first | (with_reducible assumption) | assumption) | (have e_ := (Kd.S_reads' HO_5.out).1; omega))
                            obtain ⟨ve284_4, rfl, ge284_4⟩ := k34_openM hMe284
                            have hv284_4 := hcc284 4 _ rfl
                            rw [add_field _ _ 4 (by omega)] at hv284_4
                            replace hv284_4 := Option.some.inj (hv284_4.symm.trans hx284_4)
                            rw [hv284_4] at ge284_4
                            have HL284_4 := Aside0.mk (show Kd.R Kd.bool 4 _ _ _ _ ((rd_T34 t279 x32_2).f4) from ge284_4)
                            clear hv284_4 ge284_4
                            clear hcc284 hce284
                            have HR284_4 := Aside0.mk hi284_4
                            have HC284_4 := Aside0.mk hl284_4
                            clear hi284_4 hl284_4
                            replace p284 := eq_true p284
                            replace q284 := eq_true q284
                            have ea_ := Option.some.inj (hx282_4.symm.trans hx284_4)
                            injection ea_ with ea_ en_ ec_
                            subst ea_
                            subst ec_
                            clear en_
                            have p285 : 0 ≤ (x32_2 : Int) := of_decide_eq_true (by first | (with_reducible assumption) | assumption)
                            have q285 : x32_2 < (t273.length : Int) := of_decide_eq_true (by first | (with_reducible assumption) | assumption)
                            obtain ⟨ad285, A285_4, c285_4, e285, hx285_0, hx285_1, hx285_2, hx285_3, hx285_4, hl285_4, hi285_4⟩ := at_T34 (Kd.S_reads' HO_3.out).2.2 x32_2 p285 q285
                            obtain rfl : ad283 = ad285 := (by injection e285)
                            obtain ⟨ce285, hce285, hMe285, hcc285⟩ := Kd.S_get HO_3.out z34 x32_2 p285 (by first | exact q285 | exact of_decide_eq_true (by first | (with_reducible assumption) | assumption) | (have e_ := (Kd.S_reads' HO_3.out).1; omega))
                            obtain ⟨ve285_4, rfl, ge285_4⟩ := k34_openM hMe285
                            have hv285_4 := hcc285 4 _ rfl
                            rw [add_field _ _ 4 (by omega)] at hv285_4
                            replace hv285_4 := Option.some.inj (hv285_4.symm.trans hx285_4)
                            rw [hv285_4] at ge285_4
                            have HL285_4 := Aside0.mk (show Kd.R Kd.bool 4 _ _ _ _ ((rd_T34 t273 x32_2).f4) from ge285_4)
                            clear hv285_4 ge285_4
                            clear hcc285 hce285
                            have HR285_4 := Aside0.mk hi285_4
                            have HC285_4 := Aside0.mk hl285_4
                            clear hi285_4 hl285_4
                            replace p285 := eq_true p285
                            replace q285 := eq_true q285
                            have ea_ := Option.some.inj (hx283_4.symm.trans hx285_4)
                            injection ea_ with ea_ en_ ec_
                            subst ea_
                            subst ec_
                            clear en_
                            go_wp2
                            repeat (go_quiet (fail); try go_wp2)
                            go_roundg k2
                            case measure => have := HJ4.out; have := HK2.out; omega
                            case rel => exact ⟨(wrap64 (x32_2 + 1)), (by first | rfl | (simp; done) | (simp [*]; done)), H', ⟨by have := HJ4.out; have := HK2.out; omega⟩, ⟨by (with_reducible repeat (first | apply Kd.S_alloc | apply Kd.S_drewN | apply Kd.S_drew)); exact HO_3.out⟩, ⟨by (with_reducible repeat (first | apply Kd.S_alloc | apply Kd.S_drewN | apply Kd.S_drew)); exact HO_5.out⟩, ⟨by repeat (first | (with_reducible first | exact HB.out | apply below_alloc | apply pw_below_drewN | apply below_drew1) | exact HB.out)⟩⟩
                          · rw [if_neg c24] at H
                            have c24b0 : (((rd_T34 t279 x32_2).f3) == ((rd_T34 t273 x32_2).f3)) = false := beq_eq_false_iff_ne.mpr c24
                            have c24b1 : (((rd_T34 t279 x32_2).f3) != ((rd_T34 t273 x32_2).f3)) = true := bne_iff_ne.mpr c24
                            obtain rfl := Option.some.inj H
                            have p282 : 0 ≤ (x32_2 : Int) := of_decide_eq_true (by first | (with_reducible assumption) | assumption)
                            have q282 : x32_2 < (t279.length : Int) := of_decide_eq_true (by first | (with_reducible assumption) | assumption)
                            obtain ⟨ad282, A282_4, c282_4, e282, hx282_0, hx282_1, hx282_2, hx282_3, hx282_4, hl282_4, hi282_4⟩ := at_T34 (Kd.S_reads' HO_5.out).2.2 x32_2 p282 q282
                            cases e282
                            obtain ⟨ce282, hce282, hMe282, hcc282⟩ := Kd.S_get HO_5.out z34 x32_2 p282 (by first | exact q282 | exact of_decide_eq_true (by first | (with_reducible assumption) | assumption) | (have e_ := (Kd.S_reads' HO_5.out).1; omega))
                            obtain ⟨ve282_4, rfl, ge282_4⟩ := k34_openM hMe282
                            have hv282_4 := hcc282 4 _ rfl
                            rw [add_field _ _ 4 (by omega)] at hv282_4
                            replace hv282_4 := Option.some.inj (hv282_4.symm.trans hx282_4)
                            rw [hv282_4] at ge282_4
                            have HL282_4 := Aside0.mk (show Kd.R Kd.bool 4 _ _ _ _ ((rd_T34 t279 x32_2).f4) from ge282_4)
                            clear hv282_4 ge282_4
                            clear hcc282 hce282
                            have HR282_4 := Aside0.mk hi282_4
                            have HC282_4 := Aside0.mk hl282_4
                            clear hi282_4 hl282_4
                            replace p282 := eq_true p282
                            replace q282 := eq_true q282
                            have p283 : 0 ≤ (x32_2 : Int) := of_decide_eq_true (by first | (with_reducible assumption) | assumption)
                            have q283 : x32_2 < (t273.length : Int) := of_decide_eq_true (by first | (with_reducible assumption) | assumption)
                            obtain ⟨ad283, A283_4, c283_4, e283, hx283_0, hx283_1, hx283_2, hx283_3, hx283_4, hl283_4, hi283_4⟩ := at_T34 (Kd.S_reads' HO_3.out).2.2 x32_2 p283 q283
                            cases e283
                            obtain ⟨ce283, hce283, hMe283, hcc283⟩ := Kd.S_get HO_3.out z34 x32_2 p283 (by first | exact q283 | exact of_decide_eq_true (by first | (with_reducible assumption) | assumption) | (have e_ := (Kd.S_reads' HO_3.out).1; omega))
                            obtain ⟨ve283_4, rfl, ge283_4⟩ := k34_openM hMe283
                            have hv283_4 := hcc283 4 _ rfl
                            rw [add_field _ _ 4 (by omega)] at hv283_4
                            replace hv283_4 := Option.some.inj (hv283_4.symm.trans hx283_4)
                            rw [hv283_4] at ge283_4
                            have HL283_4 := Aside0.mk (show Kd.R Kd.bool 4 _ _ _ _ ((rd_T34 t273 x32_2).f4) from ge283_4)
                            clear hv283_4 ge283_4
                            clear hcc283 hce283
                            have HR283_4 := Aside0.mk hi283_4
                            have HC283_4 := Aside0.mk hl283_4
                            clear hi283_4 hl283_4
                            replace p283 := eq_true p283
                            replace q283 := eq_true q283
                            have p284 : 0 ≤ (x32_2 : Int) := of_decide_eq_true (by first | (with_reducible assumption) | assumption)
                            have q284 : x32_2 < (t279.length : Int) := of_decide_eq_true (by first | (with_reducible assumption) | assumption)
                            obtain ⟨ad284, A284_4, c284_4, e284, hx284_0, hx284_1, hx284_2, hx284_3, hx284_4, hl284_4, hi284_4⟩ := at_T34 (Kd.S_reads' HO_5.out).2.2 x32_2 p284 q284
                            obtain rfl : ad282 = ad284 := (by injection e284)
                            obtain ⟨ce284, hce284, hMe284, hcc284⟩ := Kd.S_get HO_5.out z34 x32_2 p284 (by first | exact q284 | exact of_decide_eq_true (by first | (with_reducible assumption) | assumption) | (have e_ := (Kd.S_reads' HO_5.out).1; omega))
                            obtain ⟨ve284_4, rfl, ge284_4⟩ := k34_openM hMe284
                            have hv284_4 := hcc284 4 _ rfl
                            rw [add_field _ _ 4 (by omega)] at hv284_4
                            replace hv284_4 := Option.some.inj (hv284_4.symm.trans hx284_4)
                            rw [hv284_4] at ge284_4
                            have HL284_4 := Aside0.mk (show Kd.R Kd.bool 4 _ _ _ _ ((rd_T34 t279 x32_2).f4) from ge284_4)
                            clear hv284_4 ge284_4
                            clear hcc284 hce284
                            have HR284_4 := Aside0.mk hi284_4
                            have HC284_4 := Aside0.mk hl284_4
                            clear hi284_4 hl284_4
                            replace p284 := eq_true p284
                            replace q284 := eq_true q284
                            have ea_ := Option.some.inj (hx282_4.symm.trans hx284_4)
                            injection ea_ with ea_ en_ ec_
                            subst ea_
                            subst ec_
                            clear en_
                            have p285 : 0 ≤ (x32_2 : Int) := of_decide_eq_true (by first | (with_reducible assumption) | assumption)
                            have q285 : x32_2 < (t273.length : Int) := of_decide_eq_true (by first | (with_reducible assumption) | assumption)
                            obtain ⟨ad285, A285_4, c285_4, e285, hx285_0, hx285_1, hx285_2, hx285_3, hx285_4, hl285_4, hi285_4⟩ := at_T34 (Kd.S_reads' HO_3.out).2.2 x32_2 p285 q285
                            obtain rfl : ad283 = ad285 := (by injection e285)
                            obtain ⟨ce285, hce285, hMe285, hcc285⟩ := Kd.S_get HO_3.out z34 x32_2 p285 (by first | exact q285 | exact of_decide_eq_true (by first | (with_reducible assumption) | assumption) | (have e_ := (Kd.S_reads' HO_3.out).1; omega))
                            obtain ⟨ve285_4, rfl, ge285_4⟩ := k34_openM hMe285
                            have hv285_4 := hcc285 4 _ rfl
                            rw [add_field _ _ 4 (by omega)] at hv285_4
                            replace hv285_4 := Option.some.inj (hv285_4.symm.trans hx285_4)
                            rw [hv285_4] at ge285_4
                            have HL285_4 := Aside0.mk (show Kd.R Kd.bool 4 _ _ _ _ ((rd_T34 t273 x32_2).f4) from ge285_4)
                            clear hv285_4 ge285_4
                            clear hcc285 hce285
                            have HR285_4 := Aside0.mk hi285_4
                            have HC285_4 := Aside0.mk hl285_4
                            clear hi285_4 hl285_4
                            replace p285 := eq_true p285
                            replace q285 := eq_true q285
                            have ea_ := Option.some.inj (hx283_4.symm.trans hx285_4)
                            injection ea_ with ea_ en_ ec_
                            subst ea_
                            subst ec_
                            clear en_
                            go_wp2
                            repeat (go_quiet (fail); try go_wp2)
                            go_ret
                            exact ⟨by first | rfl | (simp [errW_none, errW_some] <;> rfl) | (simp [*, errW_none, errW_some] <;> rfl), by repeat (first | (with_reducible first | exact HB.out | apply below_alloc | apply pw_below_drewN | apply below_drew1) | exact HB.out)⟩
                        · rw [if_neg c23] at H
                          have c23b0 : (((rd_T34 t279 x32_2).f2) == ((rd_T34 t273 x32_2).f2)) = false := beq_eq_false_iff_ne.mpr c23
                          have c23b1 : (((rd_T34 t279 x32_2).f2) != ((rd_T34 t273 x32_2).f2)) = true := bne_iff_ne.mpr c23
                          obtain rfl := Option.some.inj H
                          have p282 : 0 ≤ (x32_2 : Int) := of_decide_eq_true (by first | (with_reducible assumption) | assumption)
                          have q282 : x32_2 < (t279.length : Int) := of_decide_eq_true (by first | (with_reducible assumption) | assumption)
                          obtain ⟨ad282, A282_4, c282_4, e282, hx282_0, hx282_1, hx282_2, hx282_3, hx282_4, hl282_4, hi282_4⟩ := at_T34 (Kd.S_reads' HO_5.out).2.2 x32_2 p282 q282
                          cases e282
                          obtain ⟨ce282, hce282, hMe282, hcc282⟩ := Kd.S_get HO_5.out z34 x32_2 p282 (by first | exact q282 | exact of_decide_eq_true (by first | (with_reducible assumption) | assumption) | (have e_ := (Kd.S_reads' HO_5.out).1; omega))
                          obtain ⟨ve282_4, rfl, ge282_4⟩ := k34_openM hMe282
                          have hv282_4 := hcc282 4 _ rfl
                          rw [add_field _ _ 4 (by omega)] at hv282_4
                          replace hv282_4 := Option.some.inj (hv282_4.symm.trans hx282_4)
                          rw [hv282_4] at ge282_4
                          have HL282_4 := Aside0.mk (show Kd.R Kd.bool 4 _ _ _ _ ((rd_T34 t279 x32_2).f4) from ge282_4)
                          clear hv282_4 ge282_4
                          clear hcc282 hce282
                          have HR282_4 := Aside0.mk hi282_4
                          have HC282_4 := Aside0.mk hl282_4
                          clear hi282_4 hl282_4
                          replace p282 := eq_true p282
                          replace q282 := eq_true q282
                          have p283 : 0 ≤ (x32_2 : Int) := of_decide_eq_true (by first | (with_reducible assumption) | assumption)
                          have q283 : x32_2 < (t273.length : Int) := of_decide_eq_true (by first | (with_reducible assumption) | assumption)
                          obtain ⟨ad283, A283_4, c283_4, e283, hx283_0, hx283_1, hx283_2, hx283_3, hx283_4, hl283_4, hi283_4⟩ := at_T34 (Kd.S_reads' HO_3.out).2.2 x32_2 p283 q283
                          cases e283
                          obtain ⟨ce283, hce283, hMe283, hcc283⟩ := Kd.S_get HO_3.out z34 x32_2 p283 (by first | exact q283 | exact of_decide_eq_true (by first | (with_reducible assumption) | assumption) | (have e_ := (Kd.S_reads' HO_3.out).1; omega))
                          obtain ⟨ve283_4, rfl, ge283_4⟩ := k34_openM hMe283
                          have hv283_4 := hcc283 4 _ rfl
                          rw [add_field _ _ 4 (by omega)] at hv283_4
                          replace hv283_4 := Option.some.inj (hv283_4.symm.trans hx283_4)
                          rw [hv283_4] at ge283_4
                          have HL283_4 := Aside0.mk (show Kd.R Kd.bool 4 _ _ _ _ ((rd_T34 t273 x32_2).f4) from ge283_4)
                          clear hv283_4 ge283_4
                          clear hcc283 hce283
                          have HR283_4 := Aside0.mk hi283_4
                          have HC283_4 := Aside0.mk hl283_4
                          clear hi283_4 hl283_4
                          replace p283 := eq_true p283
                          replace q283 := eq_true q283
                          go_wp2
                          repeat (go_quiet (fail); try go_wp2)
                          go_ret
                          exact ⟨by first | rfl | (simp [errW_none, errW_some] <;> rfl) | (simp [*, errW_none, errW_some] <;> rfl), by repeat (first | (with_reducible first | exact HB.out | apply below_alloc | apply pw_below_drewN | apply below_drew1) | exact HB.out)⟩
                      · rw [if_neg c22] at H
                        exact absurd H (by simp)
                    · rw [if_neg c21] at H
                      exact absurd H (by simp)
                  · rw [if_neg c20] at H
                    exact absurd H (by simp)
                · rw [if_neg c19] at H
                  have c19b0 : decide (x32_2 < (t279.length : Int)) = false := decide_eq_false c19
                  clear c19
                  replace H := Option.bind_eq_some_iff.mp H
                  obtain ⟨t286, A250, H⟩ := H
                  replace H : (some t286) = some r := H
                  have A25 := Aside0.mk A250
                  clear A250
                  obtain rfl := Option.some.inj H
                  go_wp2_with (first | (go_at_call 13; (with_reducible refine (laws_marksWork.calls  t286 _ A25.out).mono ?_); rintro e w26 ⟨rfl, hb⟩; have n0_ := Aside0.mk (Kd.S_below (by (with_reducible repeat (first | apply Kd.S_alloc | apply Kd.S_drewN | apply Kd.S_drew)); exact HO_3.out) hb); have n1_ := Aside0.mk (Kd.S_below (by (with_reducible repeat (first | apply Kd.S_alloc | apply Kd.S_drewN | apply Kd.S_drew)); exact HO_5.out) hb); have n2_ := Aside0.mk (below_step (by repeat (first | (with_reducible first | exact HB.out | apply below_alloc | apply pw_below_drewN | apply below_drew1) | exact HB.out)) hb); clear HO_3; clear HO_5; clear HB; have HO_3 := n0_; have HO_5 := n1_; have HB := n2_; clear n0_ n1_ n2_; (try clear hb); (try clear hb2); (try clear hk); (try clear hi)))
                  repeat (go_quiet (first | (go_at_call 13; (with_reducible refine (laws_marksWork.calls  t286 _ A25.out).mono ?_); rintro e w26 ⟨rfl, hb⟩; have n0_ := Aside0.mk (Kd.S_below (by (with_reducible repeat (first | apply Kd.S_alloc | apply Kd.S_drewN | apply Kd.S_drew)); exact HO_3.out) hb); have n1_ := Aside0.mk (Kd.S_below (by (with_reducible repeat (first | apply Kd.S_alloc | apply Kd.S_drewN | apply Kd.S_drew)); exact HO_5.out) hb); have n2_ := Aside0.mk (below_step (by repeat (first | (with_reducible first | exact HB.out | apply below_alloc | apply pw_below_drewN | apply below_drew1) | exact HB.out)) hb); clear HO_3; clear HO_5; clear HB; have HO_3 := n0_; have HO_5 := n1_; have HB := n2_; clear n0_ n1_ n2_; (try clear hb); (try clear hb2); (try clear hk); (try clear hi))); try go_wp2_with (first | (go_at_call 13; (with_reducible refine (laws_marksWork.calls  t286 _ A25.out).mono ?_); rintro e w26 ⟨rfl, hb⟩; have n0_ := Aside0.mk (Kd.S_below (by (with_reducible repeat (first | apply Kd.S_alloc | apply Kd.S_drewN | apply Kd.S_drew)); exact HO_3.out) hb); have n1_ := Aside0.mk (Kd.S_below (by (with_reducible repeat (first | apply Kd.S_alloc | apply Kd.S_drewN | apply Kd.S_drew)); exact HO_5.out) hb); have n2_ := Aside0.mk (below_step (by repeat (first | (with_reducible first | exact HB.out | apply below_alloc | apply pw_below_drewN | apply below_drew1) | exact HB.out)) hb); clear HO_3; clear HO_5; clear HB; have HO_3 := n0_; have HO_5 := n1_; have HB := n2_; clear n0_ n1_ n2_; (try clear hb); (try clear hb2); (try clear hk); (try clear hi))))
                  go_ret
                  exact ⟨by first | rfl | (simp [errW_none, errW_some] <;> rfl) | (simp [*, errW_none, errW_some] <;> rfl), by repeat (first | (with_reducible first | exact HB.out | apply below_alloc | apply pw_below_drewN | apply below_drew1) | exact HB.out)⟩
          · rw [if_neg c15] at H
            have c15b0 : ((t279.length : Int) == (t273.length : Int)) = false := beq_eq_false_iff_ne.mpr c15
            have c15b1 : ((t279.length : Int) != (t273.length : Int)) = true := bne_iff_ne.mpr c15
            have c15b2 : (t279.length == t273.length) = false := by first | simpa using c15 | (simp at c15 ⊢; omega)
            obtain rfl := Option.some.inj H
            go_wp2_with (first | (go_at_call 14; (with_reducible refine (impl_RunMarks.calls _ _ l0 t279 _ ?side1 ?side2 A14.out).mono ?_); (case side1 => repeat (first | exact (Kd.C_below HR0.out HB.out) | (with_reducible refine Kd.C_alloc ?_ _) | (with_reducible refine Kd.C_drewN ?_ _) | (with_reducible refine Kd.C_drew ?_))); (case side2 => exact HC0.out); rintro e w27 ⟨v280, rfl, ho0, hb⟩; have n0_ := Aside0.mk (Kd.S_elder' (by (with_reducible repeat (first | apply Kd.S_alloc | apply Kd.S_drewN | apply Kd.S_drew)); exact HO_3.out) (Kd.S_base ho0) hb); have n1_ := Aside0.mk (Kd.S_lower (Kd.S_new' ho0 (Kd.S_lt (by (with_reducible repeat (first | apply Kd.S_alloc | apply Kd.S_drewN | apply Kd.S_drew)); exact HO_3.out))) (below_size (by repeat (first | (with_reducible first | exact HB.out | apply below_alloc | apply pw_below_drewN | apply below_drew1) | exact HB.out)))); have n2_ := Aside0.mk (below_step (by repeat (first | (with_reducible first | exact HB.out | apply below_alloc | apply pw_below_drewN | apply below_drew1) | exact HB.out)) hb); clear HO_3; clear HB; have HO_3 := n0_; have HO281 := n1_; have HB := n2_; clear n0_ n1_ n2_; (try clear hb); (try clear hb2); (try clear hk); (try clear hi); (try clear ho0); obtain ⟨Ao28, co28, eo28⟩ := Kd.S_slice HO281.out; subst eo28; obtain ⟨Ao29, co29, eo29⟩ := Kd.S_slice HO_3.out; subst eo29))
            repeat (go_quiet (first | (go_at_call 14; (with_reducible refine (impl_RunMarks.calls _ _ l0 t279 _ ?side1 ?side2 A14.out).mono ?_); (case side1 => repeat (first | exact (Kd.C_below HR0.out HB.out) | (with_reducible refine Kd.C_alloc ?_ _) | (with_reducible refine Kd.C_drewN ?_ _) | (with_reducible refine Kd.C_drew ?_))); (case side2 => exact HC0.out); rintro e w27 ⟨v280, rfl, ho0, hb⟩; have n0_ := Aside0.mk (Kd.S_elder' (by (with_reducible repeat (first | apply Kd.S_alloc | apply Kd.S_drewN | apply Kd.S_drew)); exact HO_3.out) (Kd.S_base ho0) hb); have n1_ := Aside0.mk (Kd.S_lower (Kd.S_new' ho0 (Kd.S_lt (by (with_reducible repeat (first | apply Kd.S_alloc | apply Kd.S_drewN | apply Kd.S_drew)); exact HO_3.out))) (below_size (by repeat (first | (with_reducible first | exact HB.out | apply below_alloc | apply pw_below_drewN | apply below_drew1) | exact HB.out)))); have n2_ := Aside0.mk (below_step (by repeat (first | (with_reducible first | exact HB.out | apply below_alloc | apply pw_below_drewN | apply below_drew1) | exact HB.out)) hb); clear HO_3; clear HB; have HO_3 := n0_; have HO281 := n1_; have HB := n2_; clear n0_ n1_ n2_; (try clear hb); (try clear hb2); (try clear hk); (try clear hi); (try clear ho0); obtain ⟨Ao28, co28, eo28⟩ := Kd.S_slice HO281.out; subst eo28; obtain ⟨Ao29, co29, eo29⟩ := Kd.S_slice HO_3.out; subst eo29)); try go_wp2_with (first | (go_at_call 14; (with_reducible refine (impl_RunMarks.calls _ _ l0 t279 _ ?side1 ?side2 A14.out).mono ?_); (case side1 => repeat (first | exact (Kd.C_below HR0.out HB.out) | (with_reducible refine Kd.C_alloc ?_ _) | (with_reducible refine Kd.C_drewN ?_ _) | (with_reducible refine Kd.C_drew ?_))); (case side2 => exact HC0.out); rintro e w27 ⟨v280, rfl, ho0, hb⟩; have n0_ := Aside0.mk (Kd.S_elder' (by (with_reducible repeat (first | apply Kd.S_alloc | apply Kd.S_drewN | apply Kd.S_drew)); exact HO_3.out) (Kd.S_base ho0) hb); have n1_ := Aside0.mk (Kd.S_lower (Kd.S_new' ho0 (Kd.S_lt (by (with_reducible repeat (first | apply Kd.S_alloc | apply Kd.S_drewN | apply Kd.S_drew)); exact HO_3.out))) (below_size (by repeat (first | (with_reducible first | exact HB.out | apply below_alloc | apply pw_below_drewN | apply below_drew1) | exact HB.out)))); have n2_ := Aside0.mk (below_step (by repeat (first | (with_reducible first | exact HB.out | apply below_alloc | apply pw_below_drewN | apply below_drew1) | exact HB.out)) hb); clear HO_3; clear HB; have HO_3 := n0_; have HO281 := n1_; have HB := n2_; clear n0_ n1_ n2_; (try clear hb); (try clear hb2); (try clear hk); (try clear hi); (try clear ho0); obtain ⟨Ao28, co28, eo28⟩ := Kd.S_slice HO281.out; subst eo28; obtain ⟨Ao29, co29, eo29⟩ := Kd.S_slice HO_3.out; subst eo29)))
            go_ret
            exact ⟨by first | rfl | (simp [errW_none, errW_some] <;> rfl) | (simp [*, errW_none, errW_some] <;> rfl), by repeat (first | (with_reducible first | exact HB.out | apply below_alloc | apply pw_below_drewN | apply below_drew1) | exact HB.out)⟩
  · replace c3 := Bool.eq_false_iff.mpr c3
    subst c3
    have H1 : (some true) = some r := by rw [if_neg (show ¬ (false = true) by decide)] at H; exact H
    clear H
    have H := H1
    clear H1
    obtain rfl := Option.some.inj H
    go_enter Try.func6, Try.ntmps6
    go_wp2_with (first | (go_at_call 11; (with_reducible refine (laws_zzFits1.calls k _ _ l0 false _ ?side1 ?side2 A2.out).mono ?_); (case side1 => repeat (first | exact HR0.out | (with_reducible refine Kd.C_alloc ?_ _) | (with_reducible refine Kd.C_drewN ?_ _) | (with_reducible refine Kd.C_drew ?_))); (case side2 => exact HC0.out); rintro e w30 ⟨rfl, hb⟩; have n0_ := Aside0.mk (below_step (by repeat (first | (with_reducible first | exact HB.out | apply below_alloc | apply pw_below_drewN | apply below_drew1) | exact HB.out)) hb); clear HB; have HB := n0_; clear n0_; (try clear hb); (try clear hb2); (try clear hk); (try clear hi)))
    repeat (go_quiet (first | (go_at_call 11; (with_reducible refine (laws_zzFits1.calls k _ _ l0 false _ ?side1 ?side2 A2.out).mono ?_); (case side1 => repeat (first | exact HR0.out | (with_reducible refine Kd.C_alloc ?_ _) | (with_reducible refine Kd.C_drewN ?_ _) | (with_reducible refine Kd.C_drew ?_))); (case side2 => exact HC0.out); rintro e w30 ⟨rfl, hb⟩; have n0_ := Aside0.mk (below_step (by repeat (first | (with_reducible first | exact HB.out | apply below_alloc | apply pw_below_drewN | apply below_drew1) | exact HB.out)) hb); clear HB; have HB := n0_; clear n0_; (try clear hb); (try clear hb2); (try clear hk); (try clear hi))); try go_wp2_with (first | (go_at_call 11; (with_reducible refine (laws_zzFits1.calls k _ _ l0 false _ ?side1 ?side2 A2.out).mono ?_); (case side1 => repeat (first | exact HR0.out | (with_reducible refine Kd.C_alloc ?_ _) | (with_reducible refine Kd.C_drewN ?_ _) | (with_reducible refine Kd.C_drew ?_))); (case side2 => exact HC0.out); rintro e w30 ⟨rfl, hb⟩; have n0_ := Aside0.mk (below_step (by repeat (first | (with_reducible first | exact HB.out | apply below_alloc | apply pw_below_drewN | apply below_drew1) | exact HB.out)) hb); clear HB; have HB := n0_; clear n0_; (try clear hb); (try clear hb2); (try clear hk); (try clear hi))))
    go_ret
    exact ⟨by first | rfl | (simp [errW_none, errW_some] <;> rfl) | (simp [*, errW_none, errW_some] <;> rfl), by repeat (first | (with_reducible first | exact HB.out | apply below_alloc | apply pw_below_drewN | apply below_drew1) | exact HB.out)⟩

end Go.Proofs.Ytimakagmhikhfaa.M
