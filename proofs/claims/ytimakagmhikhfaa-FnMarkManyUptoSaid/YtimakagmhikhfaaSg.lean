/- spec.Singles: acts of many, one behind the other. -/
import Derived.Test.YtimakagmhikhfaaMx0
namespace Go.Proofs.Ytimakagmhikhfaa.M
open Go.RowKit Go.Proofs.YtimakagmhikhfaaW.PrintWords Go.Proofs.YtimakagmhikhfaaW.PrintLast Go.Proofs.YtimakagmhikhfaaW.PrintMore
attribute [local go_sem] max2_int min2_int max_two min_two max_three min_three max_four min_four   -- for this text's walks alone
set_option linter.unusedVariables false
set_option linter.unusedSimpArgs false
/-! ### spec_Singles: function 15 -/
mutual
def spec_Singles.l0 : Nat → List (S31) → List (S31) → Int → Int → Option ((List (S31)))
  | 0, _, _, _, _ => none
  | k + 1, x3, x11, x12, x13 => if x13 < x12 then (if 0 ≤ x13 then (if x13 < (x11.length : Int) then (if ((rd_T31 x11 x13).f0) = 1 then (spec_Singles.l1 k x3 x11 x12 x13 ((rd_T31 x11 x13).f2) (((rd_T31 x11 x13).f2).length : Int) 0) else (if ((rd_T31 x11 x13).f0) = 3 then (spec_Singles.l2 k x3 x11 x12 x13 ((rd_T31 x11 x13).f2) (((rd_T31 x11 x13).f2).length : Int) 0) else (if x3.length < 3518437208883 then (spec_Singles.l0 k (x3 ++ [(⟨(rd_T31 x11 x13).f0, (rd_T31 x11 x13).f1, (rd_T31 x11 x13).f2⟩ : S31)]) x11 x12 (wrap64 (x13 + 1))) else (none)))) else (none)) else (none)) else (some x3)
def spec_Singles.l1 : Nat → List (S31) → List (S31) → Int → Int → List Int → Int → Int → Option ((List (S31)))
  | 0, _, _, _, _, _, _, _ => none
  | k + 1, x3, x11, x12, x13, x26, x27, x28 => if x28 < x27 then (if 0 ≤ x28 then (if x28 < (x26.length : Int) then (if x3.length < 3518437208883 then (spec_Singles.l1 k (x3 ++ [(⟨0, rd x26 x28, ([] : List Int)⟩ : S31)]) x11 x12 x13 x26 x27 (wrap64 (x28 + 1))) else (none)) else (none)) else (none)) else (spec_Singles.l0 k x3 x11 x12 (wrap64 (x13 + 1)))
def spec_Singles.l2 : Nat → List (S31) → List (S31) → Int → Int → List Int → Int → Int → Option ((List (S31)))
  | 0, _, _, _, _, _, _, _ => none
  | k + 1, x3, x11, x12, x13, x41, x42, x43 => if x43 < x42 then (if 0 ≤ x43 then (if x43 < (x41.length : Int) then (if x3.length < 3518437208883 then (spec_Singles.l2 k (x3 ++ [(⟨2, rd x41 x43, ([] : List Int)⟩ : S31)]) x11 x12 x13 x41 x42 (wrap64 (x43 + 1))) else (none)) else (none)) else (none)) else (spec_Singles.l0 k x3 x11 x12 (wrap64 (x13 + 1)))
end
def spec_Singles.f (k : Nat) (l0 : List (S31)) : Option ((List (S31))) := spec_Singles.l0 k (([] : List (S31))) l0 (l0.length : Int) 0
theorem spec_Singles.mono_l : ∀ k, (∀ y0 y1 y2 y3, LeO (spec_Singles.l0 k y0 y1 y2 y3) (spec_Singles.l0 (k + 1) y0 y1 y2 y3)) ∧ (∀ y0 y1 y2 y3 y4 y5 y6, LeO (spec_Singles.l1 k y0 y1 y2 y3 y4 y5 y6) (spec_Singles.l1 (k + 1) y0 y1 y2 y3 y4 y5 y6)) ∧ (∀ y0 y1 y2 y3 y4 y5 y6, LeO (spec_Singles.l2 k y0 y1 y2 y3 y4 y5 y6) (spec_Singles.l2 (k + 1) y0 y1 y2 y3 y4 y5 y6))
  | 0 => ⟨fun _ _ _ _ r h => by simp [spec_Singles.l0] at h, fun _ _ _ _ _ _ _ r h => by simp [spec_Singles.l1] at h, fun _ _ _ _ _ _ _ r h => by simp [spec_Singles.l2] at h⟩
  | k + 1 => by
    obtain ⟨ih0, ih1, ih2⟩ := spec_Singles.mono_l k
    refine ⟨?_, ?_, ?_⟩
    · intro y0 y1 y2 y3
      unfold spec_Singles.l0
      repeat' first
      | (with_reducible exact ih0 _ _ _ _)
      | (with_reducible exact ih1 _ _ _ _ _ _ _)
      | (with_reducible exact ih2 _ _ _ _ _ _ _)
      | (with_reducible exact LeO.refl _)
      | (with_reducible exact LeO.none _)
      | (with_reducible refine LeO.ite ?_ ?_)
      | (with_reducible refine LeO.bind ?_ (fun _ => ?_))
      | exact ih0 _ _ _ _
      | exact ih1 _ _ _ _ _ _ _
      | exact ih2 _ _ _ _ _ _ _
      | exact LeO.none _
      | refine LeO.ite ?_ ?_
      | refine LeO.bind ?_ (fun _ => ?_)
    · intro y0 y1 y2 y3 y4 y5 y6
      unfold spec_Singles.l1
      repeat' first
      | (with_reducible exact ih0 _ _ _ _)
      | (with_reducible exact ih1 _ _ _ _ _ _ _)
      | (with_reducible exact ih2 _ _ _ _ _ _ _)
      | (with_reducible exact LeO.refl _)
      | (with_reducible exact LeO.none _)
      | (with_reducible refine LeO.ite ?_ ?_)
      | (with_reducible refine LeO.bind ?_ (fun _ => ?_))
      | exact ih0 _ _ _ _
      | exact ih1 _ _ _ _ _ _ _
      | exact ih2 _ _ _ _ _ _ _
      | exact LeO.none _
      | refine LeO.ite ?_ ?_
      | refine LeO.bind ?_ (fun _ => ?_)
    · intro y0 y1 y2 y3 y4 y5 y6
      unfold spec_Singles.l2
      repeat' first
      | (with_reducible exact ih0 _ _ _ _)
      | (with_reducible exact ih1 _ _ _ _ _ _ _)
      | (with_reducible exact ih2 _ _ _ _ _ _ _)
      | (with_reducible exact LeO.refl _)
      | (with_reducible exact LeO.none _)
      | (with_reducible refine LeO.ite ?_ ?_)
      | (with_reducible refine LeO.bind ?_ (fun _ => ?_))
      | exact ih0 _ _ _ _
      | exact ih1 _ _ _ _ _ _ _
      | exact ih2 _ _ _ _ _ _ _
      | exact LeO.none _
      | refine LeO.ite ?_ ?_
      | refine LeO.bind ?_ (fun _ => ?_)
theorem spec_Singles.mono : ∀ a0 k, LeO (spec_Singles.f k a0) (spec_Singles.f (k + 1) a0) := by
  intro a0 k
  obtain ⟨ih0, ih1, ih2⟩ := spec_Singles.mono_l k
  unfold spec_Singles.f
  repeat' first
      | (with_reducible exact ih0 _ _ _ _)
      | (with_reducible exact ih1 _ _ _ _ _ _ _)
      | (with_reducible exact ih2 _ _ _ _ _ _ _)
      | (with_reducible exact LeO.refl _)
      | (with_reducible exact LeO.none _)
      | (with_reducible refine LeO.ite ?_ ?_)
      | (with_reducible refine LeO.bind ?_ (fun _ => ?_))
      | exact ih0 _ _ _ _
      | exact ih1 _ _ _ _ _ _ _
      | exact ih2 _ _ _ _ _ _ _
      | exact LeO.none _
      | refine LeO.ite ?_ ?_
      | refine LeO.bind ?_ (fun _ => ?_)
set_option maxHeartbeats 8000000 in
set_option maxRecDepth 100000 in
theorem spec_Singles.calls (k : Nat) (P0_ : Nat → Prop) (A0 : Option Addr) (c0 : Nat) (l0 : List (S31)) (r : List (S31)) (w : World) (hs0 : Kd.V k31 31 w w.heap.size (fun k_ => P0_ k_) (.slice A0 l0.length c0) l0) (h : spec_Singles.f k l0 = some r) :
    Calls Try.prog 15 #[.slice A0 l0.length c0] w fun e w' => ∃ v0_ : Value, e = .returned (v0_) ∧ Kd.N k31 31 w' w.heap.size (fun k_ => (P0_ k_ ∨ w.heap.size ≤ k_)) v0_ r ∧ Below w.heap.size w w' := by
  have hu31 := Try.underlying31
  have HO0 := Aside0.mk (show Kd.V k31 31 w w.heap.size (fun k_ => (P0_ k_ ∨ w.heap.size ≤ k_)) (.slice A0 l0.length c0) l0 from Kd.V_mono hs0 (fun k_ hk => .inl hk))
  have HB := Aside0.mk (Below.refl w.heap.size w)
  have H : (spec_Singles.l0 k (([] : List (S31))) l0 (l0.length : Int) 0) = some r := h
  clear h
  obtain ⟨y159, hy159⟩ : ∃ y_ : List (S31), y_ = (([] : List (S31))) := ⟨_, rfl⟩
  replace H : (spec_Singles.l0 k y159 l0 (l0.length : Int) 0) = some r := by first | (rw [hy159]; with_reducible exact H) | (have H2_ := (Option.bind_some _ _).symm.trans H; rw [hy159]; with_reducible exact H2_) | (have H2_ := (Option.bind_some _ _).symm.trans H; with_reducible exact H2_) | with_reducible exact H | (rw [hy159]; exact H) | exact H
  have Ny159 := Aside0.mk hy159
  clear hy159
  have H' := Aside0.mk H
  clear H
  go_enter Try.func15, Try.ntmps15
  go_wp2_with (first | ((with_reducible refine gate_dst (N := 10) rfl ?_); refine Kd.N_lit k31 _ 31 ?hg (N' := 10) ?hd (xs := ([] : List (S31))) (inner := []) (ok := (fun k_ => (P0_ k_ ∨ w.heap.size ≤ k_))) (okp := (fun k_ => (P0_ k_ ∨ w.heap.size ≤ k_))) ?hr ?hp (fun _ hk => hk) ((show ∀ k_, w.heap.size ≤ k_ → (fun k_ => (P0_ k_ ∨ w.heap.size ≤ k_)) k_ from fun k_ hk => (.inr (Nat.le_trans (below_size (by repeat (first | (with_reducible first | exact HB.out | apply below_alloc | apply pw_below_drewN | apply below_drew1) | exact HB.out))) hk))) _ (Nat.le_refl _)) (Below.refl _ _) (Nat.le_refl _) (by simp) ?_; (case hd => rfl); (case hg => rfl); (case hr => first | (go_simp; done) | (go_simp; rfl)); (case hp => exact (Reps.none _ _)); intro v160 w2 ho3 hb hg_ hnew_; clear hg_ hnew_; (first | rw [← Ny159.out] at ho3 | (simp only [Int.reduceToNat] at ho3; rw [← Ny159.out] at ho3)); have n0_ := Aside0.mk (Kd.V_elder' (by (with_reducible repeat (first | apply Kd.V_alloc | apply Kd.V_drewN | apply Kd.V_drew)); exact HO0.out) (Kd.N_base ho3) hb); have n1_ := Aside0.mk (Kd.N_lower ho3 (below_size (by repeat (first | (with_reducible first | exact HB.out | apply below_alloc | apply pw_below_drewN | apply below_drew1) | exact HB.out)))); have n2_ := Aside0.mk (below_step (by repeat (first | (with_reducible first | exact HB.out | apply below_alloc | apply pw_below_drewN | apply below_drew1) | exact HB.out)) hb); clear HO0; clear HB; have HO0 := n0_; have HO161 := n1_; have HB := n2_; clear n0_ n1_ n2_; clear hb ho3))
  go_loopg [3, 13] k (fun kq v3 v13 w' => ∃ (x3_1 : List (S31)) (x13_1 : Int), v13 = .int .i64 x13_1 ∧ Aside0 (spec_Singles.l0 kq x3_1 l0 (l0.length : Int) x13_1 = some r) ∧ Aside0 (kq ≤ k) ∧ Aside0 (Kd.N k31 31 w' w.heap.size (fun k_ => (P0_ k_ ∨ w.heap.size ≤ k_)) v3 x3_1) ∧ Aside0 (Kd.V k31 31 w' w.heap.size (fun k_ => (P0_ k_ ∨ w.heap.size ≤ k_) ∧ some k_ ≠ (v3 : Value).ownBlock) (.slice A0 l0.length c0) l0) ∧ Aside0 (Below w.heap.size w w'))
  case atStart => exact ⟨(y159), (0), (by first | rfl | (simp; done) | (simp [*]; done)), H', ⟨Nat.le_refl _⟩, ⟨by (with_reducible repeat (first | apply Kd.N_alloc | apply Kd.N_drewN | apply Kd.N_drew)); exact HO161.out⟩, ⟨by (with_reducible repeat (first | apply Kd.V_alloc | apply Kd.V_drewN | apply Kd.V_drew)); exact HO0.out⟩, ⟨by repeat (first | (with_reducible first | exact HB.out | apply below_alloc | apply pw_below_drewN | apply below_drew1) | exact HB.out)⟩⟩
  case round =>
    clear H'
    try clear c1
    try clear p2
    obtain ⟨x3_1, x13_1, rfl, HA, HK1, HO_3, HO_11, HB⟩ := hrel
    cases gk with
    | zero => exact absurd HA.out (by simp [spec_Singles.l0])
    | succ k1 =>
      have H := HA.out
      clear HA
      simp only [spec_Singles.l0] at H
      by_cases c4 : x13_1 < (l0.length : Int)
      · rw [if_pos c4] at H
        have c4b0 : decide (x13_1 < (l0.length : Int)) = true := decide_eq_true c4
        clear c4
        by_cases c5 : 0 ≤ x13_1
        · rw [if_pos c5] at H
          have c5b0 : decide (0 ≤ x13_1) = true := decide_eq_true c5
          clear c5
          by_cases c6 : x13_1 < (l0.length : Int)
          · rw [if_pos c6] at H
            have c6b0 : decide (x13_1 < (l0.length : Int)) = true := decide_eq_true c6
            clear c6
            by_cases c7 : ((rd_T31 l0 x13_1).f0) = 1
            · rw [if_pos c7] at H
              have c7b0 : (((rd_T31 l0 x13_1).f0) == 1) = true := beq_iff_eq.mpr c7
              have c7b1 : (((rd_T31 l0 x13_1).f0) != 1) = false := bne_eq_false_iff_eq.mpr c7
              clear c7
              have H' := Aside0.mk H
              clear H
              have p162 : 0 ≤ (x13_1 : Int) := of_decide_eq_true (by first | (with_reducible assumption) | assumption)
              have q162 : x13_1 < (l0.length : Int) := of_decide_eq_true (by first | (with_reducible assumption) | assumption)
              obtain ⟨ad162, A162_2, c162_2, e162, hx162_0, hx162_1, hx162_2, hl162_2, hi162_2⟩ := at_T31 (Kd.V_reads' HO_11.out).2.2 x13_1 p162 q162
              cases e162
              obtain ⟨ce162, hce162, hMe162, hcc162⟩ := Kd.V_get HO_11.out z31 x13_1 p162 (by first | exact q162 | exact of_decide_eq_true (by first | (with_reducible assumption) | assumption) | (have e_ := (Kd.V_reads' HO_11.out).1; omega))
              obtain ⟨ua162_2, uc162_2, rfl, ul162_2, ge162_2⟩ := k31_openF hMe162
              have hv162_2 := hcc162 2 _ rfl
              rw [add_field _ _ 2 (by omega)] at hv162_2
              replace hv162_2 := Option.some.inj (hv162_2.symm.trans hx162_2)
              injection hv162_2 with hva_ hvn_ hvc_
              rw [hva_] at ge162_2
              rw [hvc_] at ul162_2
              have HL162_2 := Aside0.mk (show Kd.V (Kd.int .i64) 3 _ w.heap.size _ _ ((rd_T31 l0 x13_1).f2) from Kd.V_mk ul162_2 ge162_2)
              clear hva_ hvn_ hvc_ ge162_2 ul162_2
              clear hcc162 hce162
              obtain ⟨adw, Aw, cw, ew, _, _, hw2, _, hiw⟩ := at_T31 (Kd.V_reads' hs0).2.2 x13_1 p162 q162
              cases ew
              have hww := (HB.out.cell (World.block_lt_of_cell? w _ hw2)).trans hw2
              replace hww := Option.some.inj (hww.symm.trans hx162_2)
              injection hww with hwa hwn hwc
              have hwb := hwa.symm
              clear hwa
              subst hwb
              clear hwn hwc hw2
              have HRw := Aside0.mk hiw
              have HR162_2 := Aside0.mk hi162_2
              have HC162_2 := Aside0.mk hl162_2
              clear hi162_2 hl162_2 hiw
              replace p162 := eq_true p162
              replace q162 := eq_true q162
              go_wp2_with (first | ((with_reducible refine gate_dst (N := 5) rfl ?_); refine box_event ?hg (N := 5) ?hd (cs := #[.int .i64 0, .int .i64 0, .slice none 0 0]) (t := 31) ?hr ?_; (case hd => rfl); (case hg => rfl); (case hr => first | (go_simp; done) | (go_simp; rfl)); intro gb163 hg w8 hbox hb; have n0_ := Aside0.mk (Kd.N_below (Kd.N_elderB (by (with_reducible repeat (first | apply Kd.N_alloc | apply Kd.N_drewN | apply Kd.N_drew)); exact HO_3.out) gb163 (Nat.le_of_eq hg.symm)) hb); have n1_ := Aside0.mk (Kd.V_below (Kd.V_elderB (by (with_reducible repeat (first | apply Kd.V_alloc | apply Kd.V_drewN | apply Kd.V_drew)); exact HO_11.out) gb163 (Nat.le_of_eq hg.symm)) hb); have n2_ := Aside0.mk (Kd.V_below (Kd.V_elderB (by (with_reducible repeat (first | apply Kd.V_alloc | apply Kd.V_drewN | apply Kd.V_drew)); exact HL162_2.out) gb163 (Nat.le_of_eq hg.symm)) hb); have n3_ := Aside0.mk (Kd.C_below (by repeat (first | (with_reducible exact HR162_2.out) | (with_reducible refine Kd.C_alloc ?_ _) | (with_reducible refine Kd.C_drewN ?_ _) | (with_reducible refine Kd.C_drew ?_) | exact HR162_2.out)) hb); have n4_ := Aside0.mk (below_step (by repeat (first | (with_reducible first | exact HB.out | apply below_alloc | apply pw_below_drewN | apply below_drew1) | exact HB.out)) hb); have n5_ := Aside0.mk (hbox); have n6_ := Aside0.mk ((by rw [hg]; exact (below_size (by repeat (first | (with_reducible first | exact HB.out | apply below_alloc | apply pw_below_drewN | apply below_drew1) | exact HB.out))) : w.heap.size ≤ gb163)); have n7_ := Aside0.mk ((by rw [hg]; exact (below_size (by repeat (first | (with_reducible first | exact HB.out | apply below_alloc | apply pw_below_drewN | apply below_drew1) | exact HB.out))) : w.heap.size ≤ gb163)); clear HO_3; clear HO_11; clear HL162_2; clear HR162_2; clear HB; have HO_3 := n0_; have HO_11 := n1_; have HL162_2 := n2_; have HR162_2 := n3_; have HB := n4_; have BK163 := n5_; have GW163 := n6_; have GE163 := n7_; clear n0_ n1_ n2_ n3_ n4_ n5_ n6_ n7_; clear hb hbox hg; have hcz9_0 : w8.cell? ⟨gb163, 0, none⟩ = some (.int .i64 0) := (blk_cell BK163.out 0).trans rfl; have hcz9_1 : w8.cell? ⟨gb163, 1, none⟩ = some (.int .i64 0) := (blk_cell BK163.out 1).trans rfl; have hcz9_2 : w8.cell? ⟨gb163, 2, none⟩ = some (.slice none 0 0) := (blk_cell BK163.out 2).trans rfl; have hfz9_0 := blk_frozen BK163.out 0; have hfz9_1 := blk_frozen BK163.out 1; have hfz9_2 := blk_frozen BK163.out 2))
              go_loopg [3, 28] k1 (fun kq v3 v28 w' => ∃ (x3_2 : List (S31)) (x28_2 : Int), v28 = .int .i64 x28_2 ∧ Aside0 (spec_Singles.l1 kq x3_2 l0 (l0.length : Int) x13_1 ((rd_T31 l0 x13_1).f2) (((rd_T31 l0 x13_1).f2).length : Int) x28_2 = some r) ∧ Aside0 (kq ≤ k1) ∧ Aside0 (Kd.N k31 31 w' w.heap.size (fun k_ => (P0_ k_ ∨ w.heap.size ≤ k_) ∧ k_ ≠ gb163) v3 x3_2) ∧ Aside0 (Kd.V k31 31 w' w.heap.size (fun k_ => (P0_ k_ ∨ w.heap.size ≤ k_) ∧ some k_ ≠ (v3 : Value).ownBlock ∧ k_ ≠ gb163) (.slice (some ad162) l0.length c0) l0) ∧ Aside0 (w'.heap[gb163]? = some (.cells #[.int .i64 ((rd_T31 l0 x13_1).f0), .int .i64 ((rd_T31 l0 x13_1).f1), (.slice A162_2 ((rd_T31 l0 x13_1).f2).length c162_2)] 31 (0, 0))) ∧ Aside0 (Below w.heap.size w w'))
              case atStart => exact ⟨(x3_1), (0), (by first | rfl | (simp; done) | (simp [*]; done)), H', ⟨Nat.le_refl _⟩, ⟨by (with_reducible repeat (first | apply Kd.N_alloc | apply Kd.N_drewN | apply Kd.N_drew)); exact Kd.N_mono (Kd.N_far (p := ⟨gb163, 2, none⟩) (Kd.N_far (p := ⟨gb163, 1, none⟩) (Kd.N_far (p := ⟨gb163, 0, none⟩) (Kd.N_mono HO_3.out (fun k_ hk => (⟨hk, hk.2⟩ : _ ∧ k_ ≠ gb163))) (fun _ hk => hk.2) (.int .i64 ((rd_T31 l0 x13_1).f0))) (fun _ hk => hk.2) (.int .i64 ((rd_T31 l0 x13_1).f1))) (fun _ hk => hk.2) (.slice A162_2 ((rd_T31 l0 x13_1).f2).length c162_2)) (fun _ hk => ⟨hk.1.1, hk.1.2⟩)⟩, ⟨by (with_reducible repeat (first | apply Kd.V_alloc | apply Kd.V_drewN | apply Kd.V_drew)); exact Kd.V_mono (Kd.V_far (p := ⟨gb163, 2, none⟩) (Kd.V_far (p := ⟨gb163, 1, none⟩) (Kd.V_far (p := ⟨gb163, 0, none⟩) (Kd.V_mono HO_11.out (fun k_ hk => (⟨hk, hk.2⟩ : _ ∧ k_ ≠ gb163))) (fun _ hk => hk.2) (.int .i64 ((rd_T31 l0 x13_1).f0))) (fun _ hk => hk.2) (.int .i64 ((rd_T31 l0 x13_1).f1))) (fun _ hk => hk.2) (.slice A162_2 ((rd_T31 l0 x13_1).f2).length c162_2)) (fun _ hk => ⟨hk.1.1.1, ⟨hk.1.1.2, hk.1.2⟩⟩)⟩, ⟨by (with_reducible repeat (first | refine blk_drewN ?_ _ | refine blk_drew ?_ | refine blk_alloc ?_ _)); refine blk_put (cs := #[.int .i64 ((rd_T31 l0 x13_1).f0), .int .i64 ((rd_T31 l0 x13_1).f1), .slice none 0 0]) ?_ 2 _ rfl; (with_reducible repeat (first | refine blk_drewN ?_ _ | refine blk_drew ?_ | refine blk_alloc ?_ _)); refine blk_put (cs := #[.int .i64 ((rd_T31 l0 x13_1).f0), .int .i64 0, .slice none 0 0]) ?_ 1 _ rfl; (with_reducible repeat (first | refine blk_drewN ?_ _ | refine blk_drew ?_ | refine blk_alloc ?_ _)); refine blk_put (cs := #[.int .i64 0, .int .i64 0, .slice none 0 0]) ?_ 0 _ rfl; (with_reducible repeat (first | refine blk_drewN ?_ _ | refine blk_drew ?_ | refine blk_alloc ?_ _)); exact BK163.out⟩, ⟨by repeat (first | (with_reducible first | exact HB.out | apply below_alloc | apply pw_below_drewN | apply below_drew1 | refine below_set ?_ GE163.out) | exact HB.out)⟩⟩
              case round =>
                clear H'
                try clear c1
                try clear p1
                try clear q1
                try clear hx1
                try clear p2
                try clear c4
                try clear c4b0
                try clear c5
                try clear c5b0
                try clear c6
                try clear c6b0
                try clear c7
                try clear c7b0
                try clear c7b1
                try clear hcz9_0
                try clear hcz9_1
                try clear hcz9_2
                try clear hfz9_0
                try clear hfz9_1
                try clear hfz9_2
                try clear hx162_0
                try clear hx162_1
                try clear hx162_2
                try clear p162
                try clear p2
                try clear q162
                obtain ⟨x3_2, x28_2, rfl, HA, HK2, HO_3, HO_11, BK163, HB⟩ := hrel
                cases gk with
                | zero => exact absurd HA.out (by simp [spec_Singles.l1])
                | succ k2 =>
                  have H := HA.out
                  clear HA
                  simp only [spec_Singles.l1] at H
                  by_cases c10 : x28_2 < (((rd_T31 l0 x13_1).f2).length : Int)
                  · rw [if_pos c10] at H
                    have c10b0 : decide (x28_2 < (((rd_T31 l0 x13_1).f2).length : Int)) = true := decide_eq_true c10
                    clear c10
                    by_cases c11 : 0 ≤ x28_2
                    · rw [if_pos c11] at H
                      have c11b0 : decide (0 ≤ x28_2) = true := decide_eq_true c11
                      clear c11
                      by_cases c12 : x28_2 < (((rd_T31 l0 x13_1).f2).length : Int)
                      · rw [if_pos c12] at H
                        have c12b0 : decide (x28_2 < (((rd_T31 l0 x13_1).f2).length : Int)) = true := decide_eq_true c12
                        clear c12
                        by_cases c13 : x3_2.length < 3518437208883
                        · rw [if_pos c13] at H
                          have LMc13 := Aside0.mk c13
                          clear c13
                          obtain ⟨y165, hy165⟩ : ∃ y_ : List (S31), y_ = (x3_2 ++ [(⟨0, rd ((rd_T31 l0 x13_1).f2) x28_2, ([] : List Int)⟩ : S31)]) := ⟨_, rfl⟩
                          replace H : (spec_Singles.l1 k2 y165 l0 (l0.length : Int) x13_1 ((rd_T31 l0 x13_1).f2) (((rd_T31 l0 x13_1).f2).length : Int) (wrap64 (x28_2 + 1))) = some r := by first | (rw [hy165]; with_reducible exact H) | (have H2_ := (Option.bind_some _ _).symm.trans H; rw [hy165]; with_reducible exact H2_) | (have H2_ := (Option.bind_some _ _).symm.trans H; with_reducible exact H2_) | with_reducible exact H | (rw [hy165]; exact H) | exact H
                          have Ny165 := Aside0.mk hy165
                          clear hy165
                          have H' := Aside0.mk H
                          clear H
                          have p164 : 0 ≤ (x28_2 : Int) := of_decide_eq_true (by first | (with_reducible assumption) | assumption)
                          have q164 : x28_2 < (((rd_T31 l0 x13_1).f2).length : Int) := of_decide_eq_true (by first | (with_reducible assumption) | assumption)
                          obtain ⟨ad164, e164, hx164_0⟩ := Kd.at_int HRw.out x28_2 p164 q164
                          cases e164
                          replace hx164_0 := (HB.out.cell (World.block_lt_of_cell? w _ hx164_0)).trans hx164_0
                          replace p164 := eq_true p164
                          replace q164 := eq_true q164
                          go_wp2_with (first | ((with_reducible refine gate_builtin (b := .append) (xs := #[.tmp 32, .tmp 35]) rfl ?_); at_builtin; refine Kd.N_append k31 (w0 := w) w.heap.size rfl (.tmp 32) (.tmp 35) 22 31 (.agg #[(.int .i64 0), (.int .i64 0), (.slice none 0 0)]) 40 rfl Try.underlying22 info31 rfl (by decide) (by omega) u3 x3_2 (⟨0, rd ((rd_T31 l0 x13_1).f2) x28_2, ([] : List Int)⟩ : S31) [.int .i64 0, .int .i64 (rd ((rd_T31 l0 x13_1).f2) x28_2), .slice none 0 0] (fun k_ => (P0_ k_ ∨ w.heap.size ≤ k_) ∧ k_ ≠ gb163) (fun k_ => ((fun k_ => (P0_ k_ ∨ w.heap.size ≤ k_) ∧ k_ ≠ gb163)) k_ ∧ some k_ ≠ (u3 : Value).ownBlock) rfl rfl ?aP (fun _ hk => hk) ?aF ?aO ?aB ?aS ?aL ?_; (case aP => exact (k31_mkF _ _ (⟨0, rd ((rd_T31 l0 x13_1).f2) x28_2, ([] : List Int)⟩ : S31) (Nat.le_refl _) (Kd.F_nil _ _ _))); (case aB => exact (by repeat (first | (with_reducible first | exact HB.out | apply below_alloc | apply pw_below_drewN | apply below_drew1 | refine below_set ?_ GE163.out) | exact HB.out))); (case aF => exact (fun k_ hk => ⟨(.inr (Nat.le_trans (below_size (by repeat (first | (with_reducible first | exact HB.out | apply below_alloc | apply pw_below_drewN | apply below_drew1 | refine below_set ?_ GE163.out) | exact HB.out))) hk)), Kd.freshB (g := gb163) (o := .cells #[.int .i64 ((rd_T31 l0 x13_1).f0), .int .i64 ((rd_T31 l0 x13_1).f1), .slice (some ad164) ((rd_T31 l0 x13_1).f2).length c162_2] 31 (0, 0)) (by (with_reducible repeat (first | refine blk_drewN ?_ _ | refine blk_drew ?_ | refine blk_alloc ?_ _)); exact BK163.out) k_ hk⟩)); (case aO => exact (by (with_reducible repeat (first | apply Kd.N_alloc | apply Kd.N_drewN | apply Kd.N_drew)); exact HO_3.out)); (case aS => exact (below_size (by repeat (first | (with_reducible first | exact HB.out | apply below_alloc | apply pw_below_drewN | apply below_drew1 | refine below_set ?_ GE163.out) | exact HB.out)))); (case aL => have := LMc13.out; omega); intro v166 w14 ho hb hg hat; rw [← Ny165.out] at ho; have n0_ := Aside0.mk (Kd.V_afterv (ok := (fun k_ => (P0_ k_ ∨ w.heap.size ≤ k_) ∧ k_ ≠ gb163)) (by (with_reducible repeat (first | apply Kd.V_alloc | apply Kd.V_drewN | apply Kd.V_drew)); exact Kd.V_mono HO_11.out (fun _ hk => ⟨⟨hk.1, hk.2.2⟩, hk.2.1⟩)) hg hat); have n1_ := Aside0.mk (blk_grown (g := gb163) (o := .cells #[.int .i64 ((rd_T31 l0 x13_1).f0), .int .i64 ((rd_T31 l0 x13_1).f1), .slice (some ad164) ((rd_T31 l0 x13_1).f2).length c162_2] 31 (0, 0)) (by (with_reducible repeat (first | refine blk_drewN ?_ _ | refine blk_drew ?_ | refine blk_alloc ?_ _)); exact BK163.out) hg (Kd.N_away HO_3.out (fun _ hk => hk.2))); have n2_ := Aside0.mk (hb); have n3_ := Aside0.mk (ho); clear HO_11; clear BK163; clear HB; clear HO_3; have HO_11 := n0_; have BK163 := n1_; have HB := n2_; have HO167 := n3_; clear n0_ n1_ n2_ n3_; clear ho hb hg hat))
                          go_roundg k2
                          case measure => have := HK1.out; have := HK2.out; omega
                          case rel => exact ⟨(y165), (wrap64 (x28_2 + 1)), (by first | rfl | (simp; done) | (simp [*]; done)), H', ⟨by have := HK1.out; have := HK2.out; omega⟩, ⟨by (with_reducible repeat (first | apply Kd.N_alloc | apply Kd.N_drewN | apply Kd.N_drew)); exact HO167.out⟩, ⟨by (with_reducible repeat (first | apply Kd.V_alloc | apply Kd.V_drewN | apply Kd.V_drew)); exact Kd.V_mono HO_11.out (fun _ hk => ⟨hk.1.1, ⟨hk.2, hk.1.2⟩⟩)⟩, ⟨by (with_reducible repeat (first | refine blk_drewN ?_ _ | refine blk_drew ?_ | refine blk_alloc ?_ _)); exact BK163.out⟩, ⟨by repeat (first | (with_reducible first | exact HB.out | apply below_alloc | apply pw_below_drewN | apply below_drew1 | refine below_set ?_ GE163.out) | exact HB.out)⟩⟩
                        · rw [if_neg c13] at H
                          exact absurd H (by simp)
                      · rw [if_neg c12] at H
                        exact absurd H (by simp)
                    · rw [if_neg c11] at H
                      exact absurd H (by simp)
                  · rw [if_neg c10] at H
                    have c10b0 : decide (x28_2 < (((rd_T31 l0 x13_1).f2).length : Int)) = false := decide_eq_false c10
                    clear c10
                    have H' := Aside0.mk H
                    clear H
                    go_wp2
                    go_roundg k2
                    case measure => have := HK1.out; have := HK2.out; omega
                    case rel => exact ⟨(x3_2), (wrap64 (x13_1 + 1)), (by first | rfl | (simp; done) | (simp [*]; done)), H', ⟨by have := HK1.out; have := HK2.out; omega⟩, ⟨by (with_reducible repeat (first | apply Kd.N_alloc | apply Kd.N_drewN | apply Kd.N_drew)); exact Kd.N_mono HO_3.out (fun _ hk => hk.1)⟩, ⟨by (with_reducible repeat (first | apply Kd.V_alloc | apply Kd.V_drewN | apply Kd.V_drew)); exact Kd.V_mono HO_11.out (fun _ hk => ⟨hk.1, hk.2.1⟩)⟩, ⟨by repeat (first | (with_reducible first | exact HB.out | apply below_alloc | apply pw_below_drewN | apply below_drew1 | refine below_set ?_ GE163.out) | exact HB.out)⟩⟩
            · rw [if_neg c7] at H
              have c7b0 : (((rd_T31 l0 x13_1).f0) == 1) = false := beq_eq_false_iff_ne.mpr c7
              have c7b1 : (((rd_T31 l0 x13_1).f0) != 1) = true := bne_iff_ne.mpr c7
              by_cases c15 : ((rd_T31 l0 x13_1).f0) = 3
              · rw [if_pos c15] at H
                have c15b0 : (((rd_T31 l0 x13_1).f0) == 3) = true := beq_iff_eq.mpr c15
                have c15b1 : (((rd_T31 l0 x13_1).f0) != 3) = false := bne_eq_false_iff_eq.mpr c15
                clear c15
                have H' := Aside0.mk H
                clear H
                have p162 : 0 ≤ (x13_1 : Int) := of_decide_eq_true (by first | (with_reducible assumption) | assumption)
                have q162 : x13_1 < (l0.length : Int) := of_decide_eq_true (by first | (with_reducible assumption) | assumption)
                obtain ⟨ad162, A162_2, c162_2, e162, hx162_0, hx162_1, hx162_2, hl162_2, hi162_2⟩ := at_T31 (Kd.V_reads' HO_11.out).2.2 x13_1 p162 q162
                cases e162
                obtain ⟨ce162, hce162, hMe162, hcc162⟩ := Kd.V_get HO_11.out z31 x13_1 p162 (by first | exact q162 | exact of_decide_eq_true (by first | (with_reducible assumption) | assumption) | (have e_ := (Kd.V_reads' HO_11.out).1; omega))
                obtain ⟨ua162_2, uc162_2, rfl, ul162_2, ge162_2⟩ := k31_openF hMe162
                have hv162_2 := hcc162 2 _ rfl
                rw [add_field _ _ 2 (by omega)] at hv162_2
                replace hv162_2 := Option.some.inj (hv162_2.symm.trans hx162_2)
                injection hv162_2 with hva_ hvn_ hvc_
                rw [hva_] at ge162_2
                rw [hvc_] at ul162_2
                have HL162_2 := Aside0.mk (show Kd.V (Kd.int .i64) 3 _ w.heap.size _ _ ((rd_T31 l0 x13_1).f2) from Kd.V_mk ul162_2 ge162_2)
                clear hva_ hvn_ hvc_ ge162_2 ul162_2
                clear hcc162 hce162
                obtain ⟨adw, Aw, cw, ew, _, _, hw2, _, hiw⟩ := at_T31 (Kd.V_reads' hs0).2.2 x13_1 p162 q162
                cases ew
                have hww := (HB.out.cell (World.block_lt_of_cell? w _ hw2)).trans hw2
                replace hww := Option.some.inj (hww.symm.trans hx162_2)
                injection hww with hwa hwn hwc
                have hwb := hwa.symm
                clear hwa
                subst hwb
                clear hwn hwc hw2
                have HRw := Aside0.mk hiw
                have HR162_2 := Aside0.mk hi162_2
                have HC162_2 := Aside0.mk hl162_2
                clear hi162_2 hl162_2 hiw
                replace p162 := eq_true p162
                replace q162 := eq_true q162
                go_wp2_with (first | ((with_reducible refine gate_dst (N := 5) rfl ?_); refine box_event ?hg (N := 5) ?hd (cs := #[.int .i64 0, .int .i64 0, .slice none 0 0]) (t := 31) ?hr ?_; (case hd => rfl); (case hg => rfl); (case hr => first | (go_simp; done) | (go_simp; rfl)); intro gb163 hg w16 hbox hb; have n0_ := Aside0.mk (Kd.N_below (Kd.N_elderB (by (with_reducible repeat (first | apply Kd.N_alloc | apply Kd.N_drewN | apply Kd.N_drew)); exact HO_3.out) gb163 (Nat.le_of_eq hg.symm)) hb); have n1_ := Aside0.mk (Kd.V_below (Kd.V_elderB (by (with_reducible repeat (first | apply Kd.V_alloc | apply Kd.V_drewN | apply Kd.V_drew)); exact HO_11.out) gb163 (Nat.le_of_eq hg.symm)) hb); have n2_ := Aside0.mk (Kd.V_below (Kd.V_elderB (by (with_reducible repeat (first | apply Kd.V_alloc | apply Kd.V_drewN | apply Kd.V_drew)); exact HL162_2.out) gb163 (Nat.le_of_eq hg.symm)) hb); have n3_ := Aside0.mk (Kd.C_below (by repeat (first | (with_reducible exact HR162_2.out) | (with_reducible refine Kd.C_alloc ?_ _) | (with_reducible refine Kd.C_drewN ?_ _) | (with_reducible refine Kd.C_drew ?_) | exact HR162_2.out)) hb); have n4_ := Aside0.mk (below_step (by repeat (first | (with_reducible first | exact HB.out | apply below_alloc | apply pw_below_drewN | apply below_drew1) | exact HB.out)) hb); have n5_ := Aside0.mk (hbox); have n6_ := Aside0.mk ((by rw [hg]; exact (below_size (by repeat (first | (with_reducible first | exact HB.out | apply below_alloc | apply pw_below_drewN | apply below_drew1) | exact HB.out))) : w.heap.size ≤ gb163)); have n7_ := Aside0.mk ((by rw [hg]; exact (below_size (by repeat (first | (with_reducible first | exact HB.out | apply below_alloc | apply pw_below_drewN | apply below_drew1) | exact HB.out))) : w.heap.size ≤ gb163)); clear HO_3; clear HO_11; clear HL162_2; clear HR162_2; clear HB; have HO_3 := n0_; have HO_11 := n1_; have HL162_2 := n2_; have HR162_2 := n3_; have HB := n4_; have BK163 := n5_; have GW163 := n6_; have GE163 := n7_; clear n0_ n1_ n2_ n3_ n4_ n5_ n6_ n7_; clear hb hbox hg; have hcz17_0 : w16.cell? ⟨gb163, 0, none⟩ = some (.int .i64 0) := (blk_cell BK163.out 0).trans rfl; have hcz17_1 : w16.cell? ⟨gb163, 1, none⟩ = some (.int .i64 0) := (blk_cell BK163.out 1).trans rfl; have hcz17_2 : w16.cell? ⟨gb163, 2, none⟩ = some (.slice none 0 0) := (blk_cell BK163.out 2).trans rfl; have hfz17_0 := blk_frozen BK163.out 0; have hfz17_1 := blk_frozen BK163.out 1; have hfz17_2 := blk_frozen BK163.out 2))
                go_loopg [3, 43] k1 (fun kq v3 v43 w' => ∃ (x3_2 : List (S31)) (x43_2 : Int), v43 = .int .i64 x43_2 ∧ Aside0 (spec_Singles.l2 kq x3_2 l0 (l0.length : Int) x13_1 ((rd_T31 l0 x13_1).f2) (((rd_T31 l0 x13_1).f2).length : Int) x43_2 = some r) ∧ Aside0 (kq ≤ k1) ∧ Aside0 (Kd.N k31 31 w' w.heap.size (fun k_ => (P0_ k_ ∨ w.heap.size ≤ k_) ∧ k_ ≠ gb163) v3 x3_2) ∧ Aside0 (Kd.V k31 31 w' w.heap.size (fun k_ => (P0_ k_ ∨ w.heap.size ≤ k_) ∧ some k_ ≠ (v3 : Value).ownBlock ∧ k_ ≠ gb163) (.slice (some ad162) l0.length c0) l0) ∧ Aside0 (w'.heap[gb163]? = some (.cells #[.int .i64 ((rd_T31 l0 x13_1).f0), .int .i64 ((rd_T31 l0 x13_1).f1), (.slice A162_2 ((rd_T31 l0 x13_1).f2).length c162_2)] 31 (0, 0))) ∧ Aside0 (Below w.heap.size w w'))
                case atStart => exact ⟨(x3_1), (0), (by first | rfl | (simp; done) | (simp [*]; done)), H', ⟨Nat.le_refl _⟩, ⟨by (with_reducible repeat (first | apply Kd.N_alloc | apply Kd.N_drewN | apply Kd.N_drew)); exact Kd.N_mono (Kd.N_far (p := ⟨gb163, 2, none⟩) (Kd.N_far (p := ⟨gb163, 1, none⟩) (Kd.N_far (p := ⟨gb163, 0, none⟩) (Kd.N_mono HO_3.out (fun k_ hk => (⟨hk, hk.2⟩ : _ ∧ k_ ≠ gb163))) (fun _ hk => hk.2) (.int .i64 ((rd_T31 l0 x13_1).f0))) (fun _ hk => hk.2) (.int .i64 ((rd_T31 l0 x13_1).f1))) (fun _ hk => hk.2) (.slice A162_2 ((rd_T31 l0 x13_1).f2).length c162_2)) (fun _ hk => ⟨hk.1.1, hk.1.2⟩)⟩, ⟨by (with_reducible repeat (first | apply Kd.V_alloc | apply Kd.V_drewN | apply Kd.V_drew)); exact Kd.V_mono (Kd.V_far (p := ⟨gb163, 2, none⟩) (Kd.V_far (p := ⟨gb163, 1, none⟩) (Kd.V_far (p := ⟨gb163, 0, none⟩) (Kd.V_mono HO_11.out (fun k_ hk => (⟨hk, hk.2⟩ : _ ∧ k_ ≠ gb163))) (fun _ hk => hk.2) (.int .i64 ((rd_T31 l0 x13_1).f0))) (fun _ hk => hk.2) (.int .i64 ((rd_T31 l0 x13_1).f1))) (fun _ hk => hk.2) (.slice A162_2 ((rd_T31 l0 x13_1).f2).length c162_2)) (fun _ hk => ⟨hk.1.1.1, ⟨hk.1.1.2, hk.1.2⟩⟩)⟩, ⟨by (with_reducible repeat (first | refine blk_drewN ?_ _ | refine blk_drew ?_ | refine blk_alloc ?_ _)); refine blk_put (cs := #[.int .i64 ((rd_T31 l0 x13_1).f0), .int .i64 ((rd_T31 l0 x13_1).f1), .slice none 0 0]) ?_ 2 _ rfl; (with_reducible repeat (first | refine blk_drewN ?_ _ | refine blk_drew ?_ | refine blk_alloc ?_ _)); refine blk_put (cs := #[.int .i64 ((rd_T31 l0 x13_1).f0), .int .i64 0, .slice none 0 0]) ?_ 1 _ rfl; (with_reducible repeat (first | refine blk_drewN ?_ _ | refine blk_drew ?_ | refine blk_alloc ?_ _)); refine blk_put (cs := #[.int .i64 0, .int .i64 0, .slice none 0 0]) ?_ 0 _ rfl; (with_reducible repeat (first | refine blk_drewN ?_ _ | refine blk_drew ?_ | refine blk_alloc ?_ _)); exact BK163.out⟩, ⟨by repeat (first | (with_reducible first | exact HB.out | apply below_alloc | apply pw_below_drewN | apply below_drew1 | refine below_set ?_ GE163.out) | exact HB.out)⟩⟩
                case round =>
                  clear H'
                  try clear c1
                  try clear p1
                  try clear q1
                  try clear hx1
                  try clear p2
                  try clear c4
                  try clear c4b0
                  try clear c5
                  try clear c5b0
                  try clear c6
                  try clear c6b0
                  try clear p6
                  try clear c7
                  try clear c7b0
                  try clear c7b1
                  try clear c10
                  try clear c10b0
                  try clear c11
                  try clear c11b0
                  try clear c12
                  try clear c12b0
                  try clear c13
                  try clear c15
                  try clear c15b0
                  try clear c15b1
                  try clear c16
                  try clear p16
                  try clear q16
                  try clear hx16
                  try clear hcz17_0
                  try clear hcz17_1
                  try clear hcz17_2
                  try clear hcz9_0
                  try clear hcz9_1
                  try clear hcz9_2
                  try clear hfz17_0
                  try clear hfz17_1
                  try clear hfz17_2
                  try clear hfz9_0
                  try clear hfz9_1
                  try clear hfz9_2
                  try clear hx162_0
                  try clear hx162_1
                  try clear hx162_2
                  try clear hx164_0
                  try clear p1
                  try clear p162
                  try clear p164
                  try clear p2
                  try clear q1
                  try clear q162
                  try clear q164
                  obtain ⟨x3_2, x43_2, rfl, HA, HK2, HO_3, HO_11, BK163, HB⟩ := hrel
                  cases gk with
                  | zero => exact absurd HA.out (by simp [spec_Singles.l2])
                  | succ k2 =>
                    have H := HA.out
                    clear HA
                    simp only [spec_Singles.l2] at H
                    by_cases c18 : x43_2 < (((rd_T31 l0 x13_1).f2).length : Int)
                    · rw [if_pos c18] at H
                      have c18b0 : decide (x43_2 < (((rd_T31 l0 x13_1).f2).length : Int)) = true := decide_eq_true c18
                      clear c18
                      by_cases c19 : 0 ≤ x43_2
                      · rw [if_pos c19] at H
                        have c19b0 : decide (0 ≤ x43_2) = true := decide_eq_true c19
                        clear c19
                        by_cases c20 : x43_2 < (((rd_T31 l0 x13_1).f2).length : Int)
                        · rw [if_pos c20] at H
                          have c20b0 : decide (x43_2 < (((rd_T31 l0 x13_1).f2).length : Int)) = true := decide_eq_true c20
                          clear c20
                          by_cases c21 : x3_2.length < 3518437208883
                          · rw [if_pos c21] at H
                            have LMc21 := Aside0.mk c21
                            clear c21
                            obtain ⟨y169, hy169⟩ : ∃ y_ : List (S31), y_ = (x3_2 ++ [(⟨2, rd ((rd_T31 l0 x13_1).f2) x43_2, ([] : List Int)⟩ : S31)]) := ⟨_, rfl⟩
                            replace H : (spec_Singles.l2 k2 y169 l0 (l0.length : Int) x13_1 ((rd_T31 l0 x13_1).f2) (((rd_T31 l0 x13_1).f2).length : Int) (wrap64 (x43_2 + 1))) = some r := by first | (rw [hy169]; with_reducible exact H) | (have H2_ := (Option.bind_some _ _).symm.trans H; rw [hy169]; with_reducible exact H2_) | (have H2_ := (Option.bind_some _ _).symm.trans H; with_reducible exact H2_) | with_reducible exact H | (rw [hy169]; exact H) | exact H
                            have Ny169 := Aside0.mk hy169
                            clear hy169
                            have H' := Aside0.mk H
                            clear H
                            have p168 : 0 ≤ (x43_2 : Int) := of_decide_eq_true (by first | (with_reducible assumption) | assumption)
                            have q168 : x43_2 < (((rd_T31 l0 x13_1).f2).length : Int) := of_decide_eq_true (by first | (with_reducible assumption) | assumption)
                            obtain ⟨ad168, e168, hx168_0⟩ := Kd.at_int HRw.out x43_2 p168 q168
                            cases e168
                            replace hx168_0 := (HB.out.cell (World.block_lt_of_cell? w _ hx168_0)).trans hx168_0
                            replace p168 := eq_true p168
                            replace q168 := eq_true q168
                            go_wp2_with (first | ((with_reducible refine gate_builtin (b := .append) (xs := #[.tmp 47, .tmp 50]) rfl ?_); at_builtin; refine Kd.N_append k31 (w0 := w) w.heap.size rfl (.tmp 47) (.tmp 50) 22 31 (.agg #[(.int .i64 0), (.int .i64 0), (.slice none 0 0)]) 40 rfl Try.underlying22 info31 rfl (by decide) (by omega) u3 x3_2 (⟨2, rd ((rd_T31 l0 x13_1).f2) x43_2, ([] : List Int)⟩ : S31) [.int .i64 2, .int .i64 (rd ((rd_T31 l0 x13_1).f2) x43_2), .slice none 0 0] (fun k_ => (P0_ k_ ∨ w.heap.size ≤ k_) ∧ k_ ≠ gb163) (fun k_ => ((fun k_ => (P0_ k_ ∨ w.heap.size ≤ k_) ∧ k_ ≠ gb163)) k_ ∧ some k_ ≠ (u3 : Value).ownBlock) rfl rfl ?aP (fun _ hk => hk) ?aF ?aO ?aB ?aS ?aL ?_; (case aP => exact (k31_mkF _ _ (⟨2, rd ((rd_T31 l0 x13_1).f2) x43_2, ([] : List Int)⟩ : S31) (Nat.le_refl _) (Kd.F_nil _ _ _))); (case aB => exact (by repeat (first | (with_reducible first | exact HB.out | apply below_alloc | apply pw_below_drewN | apply below_drew1 | refine below_set ?_ GE163.out) | exact HB.out))); (case aF => exact (fun k_ hk => ⟨(.inr (Nat.le_trans (below_size (by repeat (first | (with_reducible first | exact HB.out | apply below_alloc | apply pw_below_drewN | apply below_drew1 | refine below_set ?_ GE163.out) | exact HB.out))) hk)), Kd.freshB (g := gb163) (o := .cells #[.int .i64 ((rd_T31 l0 x13_1).f0), .int .i64 ((rd_T31 l0 x13_1).f1), .slice (some ad168) ((rd_T31 l0 x13_1).f2).length c162_2] 31 (0, 0)) (by (with_reducible repeat (first | refine blk_drewN ?_ _ | refine blk_drew ?_ | refine blk_alloc ?_ _)); exact BK163.out) k_ hk⟩)); (case aO => exact (by (with_reducible repeat (first | apply Kd.N_alloc | apply Kd.N_drewN | apply Kd.N_drew)); exact HO_3.out)); (case aS => exact (below_size (by repeat (first | (with_reducible first | exact HB.out | apply below_alloc | apply pw_below_drewN | apply below_drew1 | refine below_set ?_ GE163.out) | exact HB.out)))); (case aL => have := LMc21.out; omega); intro v170 w22 ho hb hg hat; rw [← Ny169.out] at ho; have n0_ := Aside0.mk (Kd.V_afterv (ok := (fun k_ => (P0_ k_ ∨ w.heap.size ≤ k_) ∧ k_ ≠ gb163)) (by (with_reducible repeat (first | apply Kd.V_alloc | apply Kd.V_drewN | apply Kd.V_drew)); exact Kd.V_mono HO_11.out (fun _ hk => ⟨⟨hk.1, hk.2.2⟩, hk.2.1⟩)) hg hat); have n1_ := Aside0.mk (blk_grown (g := gb163) (o := .cells #[.int .i64 ((rd_T31 l0 x13_1).f0), .int .i64 ((rd_T31 l0 x13_1).f1), .slice (some ad168) ((rd_T31 l0 x13_1).f2).length c162_2] 31 (0, 0)) (by (with_reducible repeat (first | refine blk_drewN ?_ _ | refine blk_drew ?_ | refine blk_alloc ?_ _)); exact BK163.out) hg (Kd.N_away HO_3.out (fun _ hk => hk.2))); have n2_ := Aside0.mk (hb); have n3_ := Aside0.mk (ho); clear HO_11; clear BK163; clear HB; clear HO_3; have HO_11 := n0_; have BK163 := n1_; have HB := n2_; have HO171 := n3_; clear n0_ n1_ n2_ n3_; clear ho hb hg hat))
                            go_roundg k2
                            case measure => have := HK1.out; have := HK2.out; omega
                            case rel => exact ⟨(y169), (wrap64 (x43_2 + 1)), (by first | rfl | (simp; done) | (simp [*]; done)), H', ⟨by have := HK1.out; have := HK2.out; omega⟩, ⟨by (with_reducible repeat (first | apply Kd.N_alloc | apply Kd.N_drewN | apply Kd.N_drew)); exact HO171.out⟩, ⟨by (with_reducible repeat (first | apply Kd.V_alloc | apply Kd.V_drewN | apply Kd.V_drew)); exact Kd.V_mono HO_11.out (fun _ hk => ⟨hk.1.1, ⟨hk.2, hk.1.2⟩⟩)⟩, ⟨by (with_reducible repeat (first | refine blk_drewN ?_ _ | refine blk_drew ?_ | refine blk_alloc ?_ _)); exact BK163.out⟩, ⟨by repeat (first | (with_reducible first | exact HB.out | apply below_alloc | apply pw_below_drewN | apply below_drew1 | refine below_set ?_ GE163.out) | exact HB.out)⟩⟩
                          · rw [if_neg c21] at H
                            exact absurd H (by simp)
                        · rw [if_neg c20] at H
                          exact absurd H (by simp)
                      · rw [if_neg c19] at H
                        exact absurd H (by simp)
                    · rw [if_neg c18] at H
                      have c18b0 : decide (x43_2 < (((rd_T31 l0 x13_1).f2).length : Int)) = false := decide_eq_false c18
                      clear c18
                      have H' := Aside0.mk H
                      clear H
                      go_wp2
                      go_roundg k2
                      case measure => have := HK1.out; have := HK2.out; omega
                      case rel => exact ⟨(x3_2), (wrap64 (x13_1 + 1)), (by first | rfl | (simp; done) | (simp [*]; done)), H', ⟨by have := HK1.out; have := HK2.out; omega⟩, ⟨by (with_reducible repeat (first | apply Kd.N_alloc | apply Kd.N_drewN | apply Kd.N_drew)); exact Kd.N_mono HO_3.out (fun _ hk => hk.1)⟩, ⟨by (with_reducible repeat (first | apply Kd.V_alloc | apply Kd.V_drewN | apply Kd.V_drew)); exact Kd.V_mono HO_11.out (fun _ hk => ⟨hk.1, hk.2.1⟩)⟩, ⟨by repeat (first | (with_reducible first | exact HB.out | apply below_alloc | apply pw_below_drewN | apply below_drew1 | refine below_set ?_ GE163.out) | exact HB.out)⟩⟩
              · rw [if_neg c15] at H
                have c15b0 : (((rd_T31 l0 x13_1).f0) == 3) = false := beq_eq_false_iff_ne.mpr c15
                have c15b1 : (((rd_T31 l0 x13_1).f0) != 3) = true := bne_iff_ne.mpr c15
                by_cases c23 : x3_1.length < 3518437208883
                · rw [if_pos c23] at H
                  have LMc23 := Aside0.mk c23
                  clear c23
                  obtain ⟨y172, hy172⟩ : ∃ y_ : List (S31), y_ = (x3_1 ++ [(⟨(rd_T31 l0 x13_1).f0, (rd_T31 l0 x13_1).f1, (rd_T31 l0 x13_1).f2⟩ : S31)]) := ⟨_, rfl⟩
                  replace H : (spec_Singles.l0 k1 y172 l0 (l0.length : Int) (wrap64 (x13_1 + 1))) = some r := by first | (rw [hy172]; with_reducible exact H) | (have H2_ := (Option.bind_some _ _).symm.trans H; rw [hy172]; with_reducible exact H2_) | (have H2_ := (Option.bind_some _ _).symm.trans H; with_reducible exact H2_) | with_reducible exact H | (rw [hy172]; exact H) | exact H
                  have Ny172 := Aside0.mk hy172
                  clear hy172
                  have H' := Aside0.mk H
                  clear H
                  have p162 : 0 ≤ (x13_1 : Int) := of_decide_eq_true (by first | (with_reducible assumption) | assumption)
                  have q162 : x13_1 < (l0.length : Int) := of_decide_eq_true (by first | (with_reducible assumption) | assumption)
                  obtain ⟨ad162, A162_2, c162_2, e162, hx162_0, hx162_1, hx162_2, hl162_2, hi162_2⟩ := at_T31 (Kd.V_reads' HO_11.out).2.2 x13_1 p162 q162
                  cases e162
                  obtain ⟨ce162, hce162, hMe162, hcc162⟩ := Kd.V_get HO_11.out z31 x13_1 p162 (by first | exact q162 | exact of_decide_eq_true (by first | (with_reducible assumption) | assumption) | (have e_ := (Kd.V_reads' HO_11.out).1; omega))
                  obtain ⟨ua162_2, uc162_2, rfl, ul162_2, ge162_2⟩ := k31_openF hMe162
                  have hv162_2 := hcc162 2 _ rfl
                  rw [add_field _ _ 2 (by omega)] at hv162_2
                  replace hv162_2 := Option.some.inj (hv162_2.symm.trans hx162_2)
                  injection hv162_2 with hva_ hvn_ hvc_
                  rw [hva_] at ge162_2
                  rw [hvc_] at ul162_2
                  have HL162_2 := Aside0.mk (show Kd.V (Kd.int .i64) 3 _ w.heap.size _ _ ((rd_T31 l0 x13_1).f2) from Kd.V_mk ul162_2 ge162_2)
                  clear hva_ hvn_ hvc_ ge162_2 ul162_2
                  clear hcc162 hce162
                  obtain ⟨adw, Aw, cw, ew, _, _, hw2, _, hiw⟩ := at_T31 (Kd.V_reads' hs0).2.2 x13_1 p162 q162
                  cases ew
                  have hww := (HB.out.cell (World.block_lt_of_cell? w _ hw2)).trans hw2
                  replace hww := Option.some.inj (hww.symm.trans hx162_2)
                  injection hww with hwa hwn hwc
                  have hwb := hwa.symm
                  clear hwa
                  subst hwb
                  clear hwn hwc hw2
                  have HRw := Aside0.mk hiw
                  have HR162_2 := Aside0.mk hi162_2
                  have HC162_2 := Aside0.mk hl162_2
                  clear hi162_2 hl162_2 hiw
                  replace p162 := eq_true p162
                  replace q162 := eq_true q162
                  go_wp2_with (first | ((with_reducible refine gate_dst (N := 5) rfl ?_); refine box_event ?hg (N := 5) ?hd (cs := #[.int .i64 0, .int .i64 0, .slice none 0 0]) (t := 31) ?hr ?_; (case hd => rfl); (case hg => rfl); (case hr => first | (go_simp; done) | (go_simp; rfl)); intro gb163 hg w24 hbox hb; have n0_ := Aside0.mk (Kd.N_below (Kd.N_elderB (by (with_reducible repeat (first | apply Kd.N_alloc | apply Kd.N_drewN | apply Kd.N_drew)); exact HO_3.out) gb163 (Nat.le_of_eq hg.symm)) hb); have n1_ := Aside0.mk (Kd.V_below (Kd.V_elderB (by (with_reducible repeat (first | apply Kd.V_alloc | apply Kd.V_drewN | apply Kd.V_drew)); exact HO_11.out) gb163 (Nat.le_of_eq hg.symm)) hb); have n2_ := Aside0.mk (Kd.V_below (Kd.V_elderB (by (with_reducible repeat (first | apply Kd.V_alloc | apply Kd.V_drewN | apply Kd.V_drew)); exact HL162_2.out) gb163 (Nat.le_of_eq hg.symm)) hb); have n3_ := Aside0.mk (Kd.C_below (by repeat (first | (with_reducible exact HR162_2.out) | (with_reducible refine Kd.C_alloc ?_ _) | (with_reducible refine Kd.C_drewN ?_ _) | (with_reducible refine Kd.C_drew ?_) | exact HR162_2.out)) hb); have n4_ := Aside0.mk (below_step (by repeat (first | (with_reducible first | exact HB.out | apply below_alloc | apply pw_below_drewN | apply below_drew1) | exact HB.out)) hb); have n5_ := Aside0.mk (hbox); have n6_ := Aside0.mk ((by rw [hg]; exact (below_size (by repeat (first | (with_reducible first | exact HB.out | apply below_alloc | apply pw_below_drewN | apply below_drew1) | exact HB.out))) : w.heap.size ≤ gb163)); have n7_ := Aside0.mk ((by rw [hg]; exact (below_size (by repeat (first | (with_reducible first | exact HB.out | apply below_alloc | apply pw_below_drewN | apply below_drew1) | exact HB.out))) : w.heap.size ≤ gb163)); clear HO_3; clear HO_11; clear HL162_2; clear HR162_2; clear HB; have HO_3 := n0_; have HO_11 := n1_; have HL162_2 := n2_; have HR162_2 := n3_; have HB := n4_; have BK163 := n5_; have GW163 := n6_; have GE163 := n7_; clear n0_ n1_ n2_ n3_ n4_ n5_ n6_ n7_; clear hb hbox hg; have hcz25_0 : w24.cell? ⟨gb163, 0, none⟩ = some (.int .i64 0) := (blk_cell BK163.out 0).trans rfl; have hcz25_1 : w24.cell? ⟨gb163, 1, none⟩ = some (.int .i64 0) := (blk_cell BK163.out 1).trans rfl; have hcz25_2 : w24.cell? ⟨gb163, 2, none⟩ = some (.slice none 0 0) := (blk_cell BK163.out 2).trans rfl; have hfz25_0 := blk_frozen BK163.out 0; have hfz25_1 := blk_frozen BK163.out 1; have hfz25_2 := blk_frozen BK163.out 2) | ((with_reducible refine gate_store (t := 31) (p := 5) rfl ?_); refine store_event (t := 31) (p := 5) (v := ?vo_w26) (w1 := (((w24.setCell ⟨gb163, 0, none⟩ (.int .i64 ((rd_T31 l0 x13_1).f0))).setCell ⟨gb163, 1, none⟩ (.int .i64 ((rd_T31 l0 x13_1).f1))).setCell ⟨gb163, 2, none⟩ (.slice A162_2 ((rd_T31 l0 x13_1).f2).length c162_2))) ?hg ?ho ?hn ?hr ?_; (case ho => rfl); (case hg => rfl); (case hn => rfl); (case hr => first | (go_simp; done) | (go_simp; rfl)); intro w26 hw; have n0_ : Aside0 (Kd.N k31 31 w26 w.heap.size (fun k_ => (P0_ k_ ∨ w.heap.size ≤ k_) ∧ k_ ≠ gb163) u3 x3_1) := ⟨(by rw [hw]; exact (by (with_reducible repeat (first | apply Kd.N_alloc | apply Kd.N_drewN | apply Kd.N_drew)); exact Kd.N_mono (Kd.N_far (p := ⟨gb163, 2, none⟩) (Kd.N_far (p := ⟨gb163, 1, none⟩) (Kd.N_far (p := ⟨gb163, 0, none⟩) (Kd.N_mono HO_3.out (fun k_ hk => (⟨hk, hk.2⟩ : _ ∧ k_ ≠ gb163))) (fun _ hk => hk.2) (.int .i64 ((rd_T31 l0 x13_1).f0))) (fun _ hk => hk.2) (.int .i64 ((rd_T31 l0 x13_1).f1))) (fun _ hk => hk.2) (.slice A162_2 ((rd_T31 l0 x13_1).f2).length c162_2)) (fun _ hk => ⟨hk.1.1, hk.1.2⟩)))⟩; have n1_ : Aside0 (Kd.V k31 31 w26 w.heap.size (fun k_ => (P0_ k_ ∨ w.heap.size ≤ k_) ∧ some k_ ≠ (u3 : Value).ownBlock ∧ k_ ≠ gb163) (.slice (some ad162) l0.length c0) l0) := ⟨(by rw [hw]; exact (by (with_reducible repeat (first | apply Kd.V_alloc | apply Kd.V_drewN | apply Kd.V_drew)); exact Kd.V_mono (Kd.V_far (p := ⟨gb163, 2, none⟩) (Kd.V_far (p := ⟨gb163, 1, none⟩) (Kd.V_far (p := ⟨gb163, 0, none⟩) (Kd.V_mono HO_11.out (fun k_ hk => (⟨hk, hk.2⟩ : _ ∧ k_ ≠ gb163))) (fun _ hk => hk.2) (.int .i64 ((rd_T31 l0 x13_1).f0))) (fun _ hk => hk.2) (.int .i64 ((rd_T31 l0 x13_1).f1))) (fun _ hk => hk.2) (.slice A162_2 ((rd_T31 l0 x13_1).f2).length c162_2)) (fun _ hk => ⟨hk.1.1.1, ⟨hk.1.1.2, hk.1.2⟩⟩)))⟩; have n2_ : Aside0 (Kd.V (Kd.int .i64) 3 w26 w.heap.size (fun k_ => (P0_ k_ ∨ w.heap.size ≤ k_) ∧ some k_ ≠ (u3 : Value).ownBlock ∧ k_ ≠ gb163) (.slice A162_2 ((rd_T31 l0 x13_1).f2).length c162_2) ((rd_T31 l0 x13_1).f2)) := ⟨(by rw [hw]; exact (by (with_reducible repeat (first | apply Kd.V_alloc | apply Kd.V_drewN | apply Kd.V_drew)); exact Kd.V_mono (Kd.V_far (p := ⟨gb163, 2, none⟩) (Kd.V_far (p := ⟨gb163, 1, none⟩) (Kd.V_far (p := ⟨gb163, 0, none⟩) (Kd.V_mono HL162_2.out (fun k_ hk => (⟨hk, hk.2⟩ : _ ∧ k_ ≠ gb163))) (fun _ hk => hk.2) (.int .i64 ((rd_T31 l0 x13_1).f0))) (fun _ hk => hk.2) (.int .i64 ((rd_T31 l0 x13_1).f1))) (fun _ hk => hk.2) (.slice A162_2 ((rd_T31 l0 x13_1).f2).length c162_2)) (fun _ hk => ⟨hk.1.1.1, ⟨hk.1.1.2, hk.1.2⟩⟩)))⟩; have n3_ : Aside0 (w26.heap[gb163]? = some (.cells #[.int .i64 ((rd_T31 l0 x13_1).f0), .int .i64 ((rd_T31 l0 x13_1).f1), .slice A162_2 ((rd_T31 l0 x13_1).f2).length c162_2] 31 (0, 0))) := ⟨(by rw [hw]; exact (by (with_reducible repeat (first | refine blk_drewN ?_ _ | refine blk_drew ?_ | refine blk_alloc ?_ _)); refine blk_put (cs := #[.int .i64 ((rd_T31 l0 x13_1).f0), .int .i64 ((rd_T31 l0 x13_1).f1), .slice none 0 0]) ?_ 2 _ rfl; (with_reducible repeat (first | refine blk_drewN ?_ _ | refine blk_drew ?_ | refine blk_alloc ?_ _)); refine blk_put (cs := #[.int .i64 ((rd_T31 l0 x13_1).f0), .int .i64 0, .slice none 0 0]) ?_ 1 _ rfl; (with_reducible repeat (first | refine blk_drewN ?_ _ | refine blk_drew ?_ | refine blk_alloc ?_ _)); refine blk_put (cs := #[.int .i64 0, .int .i64 0, .slice none 0 0]) ?_ 0 _ rfl; (with_reducible repeat (first | refine blk_drewN ?_ _ | refine blk_drew ?_ | refine blk_alloc ?_ _)); exact BK163.out))⟩; have n4_ : Aside0 (Below w.heap.size w w26) := ⟨(by rw [hw]; exact (by repeat (first | (with_reducible first | exact HB.out | apply below_alloc | apply pw_below_drewN | apply below_drew1 | refine below_set ?_ GE163.out) | exact HB.out)))⟩; clear hw; clear HO_3; clear HO_11; clear HL162_2; clear BK163; clear HB; have HO_3 := n0_; have HO_11 := n1_; have HL162_2 := n2_; have BK163 := n3_; have HB := n4_; clear n0_ n1_ n2_ n3_ n4_; have hcz27_0 : w26.cell? ⟨gb163, 0, none⟩ = some (.int .i64 ((rd_T31 l0 x13_1).f0)) := (blk_cell BK163.out 0).trans rfl; have hcz27_1 : w26.cell? ⟨gb163, 1, none⟩ = some (.int .i64 ((rd_T31 l0 x13_1).f1)) := (blk_cell BK163.out 1).trans rfl; have hcz27_2 : w26.cell? ⟨gb163, 2, none⟩ = some (.slice A162_2 ((rd_T31 l0 x13_1).f2).length c162_2) := (blk_cell BK163.out 2).trans rfl; have hfz27_0 := blk_frozen BK163.out 0; have hfz27_1 := blk_frozen BK163.out 1; have hfz27_2 := blk_frozen BK163.out 2) | ((with_reducible refine gate_builtin (b := .append) (xs := #[.tmp 19, .tmp 21]) rfl ?_); at_builtin; refine Kd.N_append k31 (w0 := w) w.heap.size rfl (.tmp 19) (.tmp 21) 22 31 (.agg #[(.int .i64 0), (.int .i64 0), (.slice none 0 0)]) 40 rfl Try.underlying22 info31 rfl (by decide) (by omega) u3 x3_1 (⟨(rd_T31 l0 x13_1).f0, (rd_T31 l0 x13_1).f1, (rd_T31 l0 x13_1).f2⟩ : S31) [.int .i64 ((rd_T31 l0 x13_1).f0), .int .i64 ((rd_T31 l0 x13_1).f1), .slice A162_2 ((rd_T31 l0 x13_1).f2).length c162_2] (fun k_ => (P0_ k_ ∨ w.heap.size ≤ k_) ∧ k_ ≠ gb163) (fun k_ => ((fun k_ => (P0_ k_ ∨ w.heap.size ≤ k_) ∧ k_ ≠ gb163)) k_ ∧ some k_ ≠ (u3 : Value).ownBlock) rfl rfl ?aP (fun _ hk => hk) ?aF ?aO ?aB ?aS ?aL ?_; (case aP => exact (k31_mkF _ _ (⟨(rd_T31 l0 x13_1).f0, (rd_T31 l0 x13_1).f1, (rd_T31 l0 x13_1).f2⟩ : S31) (Kd.V_reads' (Kd.V_mono (ok' := (fun k_ => ((fun k_ => (P0_ k_ ∨ w.heap.size ≤ k_) ∧ k_ ≠ gb163)) k_ ∧ some k_ ≠ (u3 : Value).ownBlock)) (HL162_2.out) (fun k_ hk => ⟨⟨hk.1, hk.2.2⟩, hk.2.1⟩))).2.1 (Kd.V_F (Kd.V_mono (ok' := (fun k_ => ((fun k_ => (P0_ k_ ∨ w.heap.size ≤ k_) ∧ k_ ≠ gb163)) k_ ∧ some k_ ≠ (u3 : Value).ownBlock)) (HL162_2.out) (fun k_ hk => ⟨⟨hk.1, hk.2.2⟩, hk.2.1⟩))))); (case aB => exact (by repeat (first | (with_reducible first | exact HB.out | apply below_alloc | apply pw_below_drewN | apply below_drew1 | refine below_set ?_ GE163.out) | exact HB.out))); (case aF => exact (fun k_ hk => ⟨(.inr (Nat.le_trans (below_size (by repeat (first | (with_reducible first | exact HB.out | apply below_alloc | apply pw_below_drewN | apply below_drew1 | refine below_set ?_ GE163.out) | exact HB.out))) hk)), Kd.freshB (g := gb163) (o := .cells #[.int .i64 ((rd_T31 l0 x13_1).f0), .int .i64 ((rd_T31 l0 x13_1).f1), .slice A162_2 ((rd_T31 l0 x13_1).f2).length c162_2] 31 (0, 0)) (by (with_reducible repeat (first | refine blk_drewN ?_ _ | refine blk_drew ?_ | refine blk_alloc ?_ _)); exact BK163.out) k_ hk⟩)); (case aO => exact (by (with_reducible repeat (first | apply Kd.N_alloc | apply Kd.N_drewN | apply Kd.N_drew)); exact HO_3.out)); (case aS => exact (below_size (by repeat (first | (with_reducible first | exact HB.out | apply below_alloc | apply pw_below_drewN | apply below_drew1 | refine below_set ?_ GE163.out) | exact HB.out)))); (case aL => have := LMc23.out; omega); intro v173 w28 ho hb hg hat; rw [← Ny172.out] at ho; have n0_ := Aside0.mk (Kd.V_afterv (ok := (fun k_ => (P0_ k_ ∨ w.heap.size ≤ k_) ∧ k_ ≠ gb163)) (by (with_reducible repeat (first | apply Kd.V_alloc | apply Kd.V_drewN | apply Kd.V_drew)); exact Kd.V_mono HO_11.out (fun _ hk => ⟨⟨hk.1, hk.2.2⟩, hk.2.1⟩)) hg hat); have n1_ := Aside0.mk (Kd.V_afterv (ok := (fun k_ => (P0_ k_ ∨ w.heap.size ≤ k_) ∧ k_ ≠ gb163)) (by (with_reducible repeat (first | apply Kd.V_alloc | apply Kd.V_drewN | apply Kd.V_drew)); exact Kd.V_mono HL162_2.out (fun _ hk => ⟨⟨hk.1, hk.2.2⟩, hk.2.1⟩)) hg hat); have n2_ := Aside0.mk (blk_grown (g := gb163) (o := .cells #[.int .i64 ((rd_T31 l0 x13_1).f0), .int .i64 ((rd_T31 l0 x13_1).f1), .slice A162_2 ((rd_T31 l0 x13_1).f2).length c162_2] 31 (0, 0)) (by (with_reducible repeat (first | refine blk_drewN ?_ _ | refine blk_drew ?_ | refine blk_alloc ?_ _)); exact BK163.out) hg (Kd.N_away HO_3.out (fun _ hk => hk.2))); have n3_ := Aside0.mk (hb); have n4_ := Aside0.mk (ho); clear HO_11; clear HL162_2; clear BK163; clear HB; clear HO_3; have HO_11 := n0_; have HL162_2 := n1_; have BK163 := n2_; have HB := n3_; have HO174 := n4_; clear n0_ n1_ n2_ n3_ n4_; clear ho hb hg hat))
                  go_roundg k1
                  case measure => have := HK1.out; omega
                  case rel => exact ⟨(y172), (wrap64 (x13_1 + 1)), (by first | rfl | (simp; done) | (simp [*]; done)), H', ⟨by have := HK1.out; omega⟩, ⟨by (with_reducible repeat (first | apply Kd.N_alloc | apply Kd.N_drewN | apply Kd.N_drew)); exact Kd.N_mono HO174.out (fun _ hk => hk.1)⟩, ⟨by (with_reducible repeat (first | apply Kd.V_alloc | apply Kd.V_drewN | apply Kd.V_drew)); exact Kd.V_mono HO_11.out (fun _ hk => ⟨hk.1.1, hk.2⟩)⟩, ⟨by repeat (first | (with_reducible first | exact HB.out | apply below_alloc | apply pw_below_drewN | apply below_drew1 | refine below_set ?_ GE163.out) | exact HB.out)⟩⟩
                · rw [if_neg c23] at H
                  exact absurd H (by simp)
          · rw [if_neg c6] at H
            exact absurd H (by simp)
        · rw [if_neg c5] at H
          exact absurd H (by simp)
      · rw [if_neg c4] at H
        have c4b0 : decide (x13_1 < (l0.length : Int)) = false := decide_eq_false c4
        clear c4
        obtain rfl := Option.some.inj H
        go_wp2
        go_ret
        exact ⟨_, by first | rfl | (simp [errW_none, errW_some] <;> rfl) | (simp [*, errW_none, errW_some] <;> rfl), by (with_reducible repeat (first | apply Kd.N_alloc | apply Kd.N_drewN | apply Kd.N_drew)); exact HO_3.out, by repeat (first | (with_reducible first | exact HB.out | apply below_alloc | apply pw_below_drewN | apply below_drew1) | exact HB.out)⟩
end Go.Proofs.Ytimakagmhikhfaa.M
