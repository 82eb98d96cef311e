/- As the print has them, turned for the tree: laws_there. -/
import Derived.Test.YtnoolgbbpekomaaGreatDoorVz
namespace Go.Proofs.YtnoolgbbpekomaaGreatDoor.T
open Go.RowKit YtnoolgbbpekomaaGreatDoorW.PrintWords YtnoolgbbpekomaaGreatDoorW.PrintLast YtnoolgbbpekomaaGreatDoorW.PrintMore
attribute [local go_sem] max2_int min2_int max_two min_two max_three min_three max_four min_four   -- for this text's walks alone
set_option linter.unusedVariables false
set_option linter.unusedSimpArgs false
/-! ### laws_there: function 37 -/
def laws_there.l0 : Nat → List (S42) → List (S42) → Int → Int → Option ((List (S42)))
  | 0, _, _, _, _ => none
  | k + 1, x3, x7, x8, x9 => if x9 < x8 then (if 0 ≤ x9 then (if x9 < (x7.length : Int) then (if x3.length < 2513169434916 then (laws_there.l0 k (x3 ++ [(⟨false, (rd_T42 x7 x9).f1, (rd_T42 x7 x9).f2, (rd_T42 x7 x9).f3⟩ : S42)]) x7 x8 (wrap64 (x9 + 1))) else (none)) else (none)) else (none)) else (some x3)
def laws_there.f (k : Nat) (l0 : List (S42)) : Option ((List (S42))) := laws_there.l0 k (([] : List (S42))) l0 (l0.length : Int) 0
theorem laws_there.mono_l : ∀ k, (∀ y0 y1 y2 y3, LeO (laws_there.l0 k y0 y1 y2 y3) (laws_there.l0 (k + 1) y0 y1 y2 y3))
  | 0 => fun _ _ _ _ r h => by simp [laws_there.l0] at h
  | k + 1 => by
    have ih0 := laws_there.mono_l k
    · intro y0 y1 y2 y3
      unfold laws_there.l0
      repeat' first
      | (with_reducible exact ih0 _ _ _ _)
      | (with_reducible exact LeO.refl _)
      | (with_reducible exact LeO.none _)
      | (with_reducible refine LeO.ite ?_ ?_)
      | (with_reducible refine LeO.bind ?_ (fun _ => ?_))
      | exact ih0 _ _ _ _
      | exact LeO.none _
      | refine LeO.ite ?_ ?_
      | refine LeO.bind ?_ (fun _ => ?_)
theorem laws_there.mono : ∀ a0 k, LeO (laws_there.f k a0) (laws_there.f (k + 1) a0) := by
  intro a0 k
  have ih0 := laws_there.mono_l k
  unfold laws_there.f
  repeat' first
      | (with_reducible exact ih0 _ _ _ _)
      | (with_reducible exact LeO.refl _)
      | (with_reducible exact LeO.none _)
      | (with_reducible refine LeO.ite ?_ ?_)
      | (with_reducible refine LeO.bind ?_ (fun _ => ?_))
      | exact ih0 _ _ _ _
      | exact LeO.none _
      | refine LeO.ite ?_ ?_
      | refine LeO.bind ?_ (fun _ => ?_)
set_option maxHeartbeats 8000000 in
set_option maxRecDepth 100000 in
theorem laws_there.calls (k : Nat) (P0_ : Nat → Prop) (A0 : Option Addr) (c0 : Nat) (l0 : List (S42)) (r : List (S42)) (w : World) (hs0 : Kd.V k42 42 w w.heap.size (fun k_ => P0_ k_) (.slice A0 l0.length c0) l0) (h : laws_there.f k l0 = some r) :
    Calls Tryz.prog 37 #[.slice A0 l0.length c0] w fun e w' => ∃ v0_ : Value, e = .returned (v0_) ∧ Kd.N k42 42 w' w.heap.size (fun k_ => (P0_ k_ ∨ w.heap.size ≤ k_)) v0_ r ∧ Below w.heap.size w w' := by
  have hu42 := Tryz.underlying42
  have HO0 := Aside0.mk (show Kd.V k42 42 w w.heap.size (fun k_ => (P0_ k_ ∨ w.heap.size ≤ k_)) (.slice A0 l0.length c0) l0 from Kd.V_mono hs0 (fun k_ hk => .inl hk))
  have HB := Aside0.mk (Below.refl w.heap.size w)
  have H : (laws_there.l0 k (([] : List (S42))) l0 (l0.length : Int) 0) = some r := h
  clear h
  obtain ⟨y401, hy401⟩ : ∃ y_ : List (S42), y_ = (([] : List (S42))) := ⟨_, rfl⟩
  replace H : (laws_there.l0 k y401 l0 (l0.length : Int) 0) = some r := by first | (rw [hy401]; with_reducible exact H) | (have H2_ := (Option.bind_some _ _).symm.trans H; rw [hy401]; with_reducible exact H2_) | (have H2_ := (Option.bind_some _ _).symm.trans H; with_reducible exact H2_) | with_reducible exact H | (rw [hy401]; exact H) | exact H
  have Ny401 := Aside0.mk hy401
  clear hy401
  have H' := Aside0.mk H
  clear H
  go_enter Tryz.func37, Tryz.ntmps37
  go_wp2_with (first | ((with_reducible refine gate_dst (N := 6) rfl ?_); refine Kd.N_lit k42 _ 42 ?hg (N' := 6) ?hd (xs := ([] : List (S42))) (inner := []) (ok := (fun k_ => (P0_ k_ ∨ w.heap.size ≤ k_))) (okp := (fun k_ => (P0_ k_ ∨ w.heap.size ≤ k_))) ?hr ?hp (fun _ hk => hk) ((show ∀ k_, w.heap.size ≤ k_ → (fun k_ => (P0_ k_ ∨ w.heap.size ≤ k_)) k_ from fun k_ hk => (.inr (Nat.le_trans (below_size (Xb HB.out)) hk))) _ (Nat.le_refl _)) (Below.refl _ _) (Nat.le_refl _) (by simp) ?_; (case hd => rfl); (case hg => rfl); (case hr => first | (go_simp; done) | (go_simp; rfl)); (case hp => exact (Reps.none _ _)); intro v402 w2 ho3 hb hg_ hnew_; clear hg_ hnew_; (first | rw [← Ny401.out] at ho3 | (simp only [Int.reduceToNat] at ho3; rw [← Ny401.out] at ho3)); have n0_ := Aside0.mk (Kd.V_elder' (XV HO0.out) (Kd.N_base ho3) hb); have n1_ := Aside0.mk (Kd.N_lower ho3 (below_size (Xb HB.out))); have n2_ := Aside0.mk (below_step (Xb HB.out) hb); clear HO0; clear HB; have HO0 := n0_; have HO403 := n1_; have HB := n2_; clear n0_ n1_ n2_; clear hb ho3))
  go_loopg [3, 9] k (fun kq v3 v9 w' => ∃ (x3_1 : List (S42)) (x9_1 : Int), v9 = .int .i64 x9_1 ∧ Aside0 (laws_there.l0 kq x3_1 l0 (l0.length : Int) x9_1 = some r) ∧ Aside0 (kq ≤ k) ∧ Aside0 (Kd.N k42 42 w' w.heap.size (fun k_ => (P0_ k_ ∨ w.heap.size ≤ k_)) v3 x3_1) ∧ Aside0 (Kd.V k42 42 w' w.heap.size (fun k_ => (P0_ k_ ∨ w.heap.size ≤ k_) ∧ some k_ ≠ (v3 : Value).ownBlock) (.slice A0 l0.length c0) l0) ∧ Aside0 (Below w.heap.size w w'))
  case atStart => exact ⟨(y401), (0), (by first | rfl | (simp; done) | (simp [*]; done)), H', ⟨Nat.le_refl _⟩, ⟨by (with_reducible repeat (first | apply Kd.N_alloc | apply Kd.N_drewN | apply Kd.N_drew)); exact HO403.out⟩, ⟨by (with_reducible repeat (first | apply Kd.V_alloc | apply Kd.V_drewN | apply Kd.V_drew)); exact HO0.out⟩, ⟨by repeat (first | (with_reducible first | exact HB.out | apply below_alloc | apply pw_below_drewN | apply below_drew1) | exact HB.out)⟩⟩
  case round =>
    clear H'
    try clear p2
    try clear c3
    obtain ⟨x3_1, x9_1, rfl, HA, HK1, HO_3, HO_7, HB⟩ := hrel
    cases gk with
    | zero => exact absurd HA.out (by simp [laws_there.l0])
    | succ k1 =>
      have H := HA.out
      clear HA
      simp only [laws_there.l0] at H
      by_cases c4 : x9_1 < (l0.length : Int)
      · rw [if_pos c4] at H
        have c4b0 : decide (x9_1 < (l0.length : Int)) = true := decide_eq_true c4
        clear c4
        by_cases c5 : 0 ≤ x9_1
        · rw [if_pos c5] at H
          have c5b0 : decide (0 ≤ x9_1) = true := decide_eq_true c5
          clear c5
          by_cases c6 : x9_1 < (l0.length : Int)
          · rw [if_pos c6] at H
            have c6b0 : decide (x9_1 < (l0.length : Int)) = true := decide_eq_true c6
            clear c6
            by_cases c7 : x3_1.length < 2513169434916
            · rw [if_pos c7] at H
              have LMc7 := Aside0.mk c7
              clear c7
              obtain ⟨y406, hy406⟩ : ∃ y_ : List (S42), y_ = (x3_1 ++ [(⟨false, (rd_T42 l0 x9_1).f1, (rd_T42 l0 x9_1).f2, (rd_T42 l0 x9_1).f3⟩ : S42)]) := ⟨_, rfl⟩
              replace H : (laws_there.l0 k1 y406 l0 (l0.length : Int) (wrap64 (x9_1 + 1))) = some r := by first | (rw [hy406]; with_reducible exact H) | (have H2_ := (Option.bind_some _ _).symm.trans H; rw [hy406]; with_reducible exact H2_) | (have H2_ := (Option.bind_some _ _).symm.trans H; with_reducible exact H2_) | with_reducible exact H | (rw [hy406]; exact H) | exact H
              have Ny406 := Aside0.mk hy406
              clear hy406
              have H' := Aside0.mk H
              clear H
              have p404 : 0 ≤ (x9_1 : Int) := of_decide_eq_true (by first | (with_reducible assumption) | assumption)
              have q404 : x9_1 < (l0.length : Int) := of_decide_eq_true (by first | (with_reducible assumption) | assumption)
              obtain ⟨ad404, A404_2, c404_2, e404, hx404_0, hx404_1, hx404_2, hx404_3, hl404_2, hi404_2⟩ := at_T42 (Kd.V_reads' HO_7.out).2.2 x9_1 p404 q404
              cases e404
              obtain ⟨ce404, hce404, hMe404, hcc404⟩ := Kd.V_get HO_7.out z42 x9_1 p404 (by first | exact q404 | exact of_decide_eq_true (by first | (with_reducible assumption) | assumption) | (have e_ := (Kd.V_reads' HO_7.out).1; omega))
              obtain ⟨ua404_2, uc404_2, rfl, ul404_2, ge404_2⟩ := k42_openF hMe404
              have hv404_2 := hcc404 2 _ rfl
              rw [add_field _ _ 2 (by omega)] at hv404_2
              replace hv404_2 := Option.some.inj (hv404_2.symm.trans hx404_2)
              injection hv404_2 with hva_ hvn_ hvc_
              rw [hva_] at ge404_2
              rw [hvc_] at ul404_2
              have HL404_2 := Aside0.mk (show Kd.V k67 67 _ w.heap.size _ _ ((rd_T42 l0 x9_1).f2) from Kd.V_mk ul404_2 ge404_2)
              clear hva_ hvn_ hvc_ ge404_2 ul404_2
              clear hcc404 hce404
              have HR404_2 := Aside0.mk hi404_2
              have HC404_2 := Aside0.mk hl404_2
              clear hi404_2 hl404_2
              replace p404 := eq_true p404
              replace q404 := eq_true q404
              go_wp2_with (first | ((with_reducible refine gate_dst (N := 5) rfl ?_); refine box_event ?hg (N := 5) ?hd (cs := #[.bool false, .string (⟨#[]⟩ : ByteArray), .slice none 0 0, .int .i64 0]) (t := 42) ?hr ?_; (case hd => rfl); (case hg => rfl); (case hr => first | (go_simp; done) | (go_simp; rfl)); intro gb405 hg w8 hbox hb; have n0_ := Aside0.mk (Kd.N_below (Kd.N_elderB (XN HO_3.out) gb405 (Nat.le_of_eq hg.symm)) hb); have n1_ := Aside0.mk (Kd.V_below (Kd.V_elderB (XV HO_7.out) gb405 (Nat.le_of_eq hg.symm)) hb); have n2_ := Aside0.mk (Kd.V_below (Kd.V_elderB (XV HL404_2.out) gb405 (Nat.le_of_eq hg.symm)) hb); have n3_ := Aside0.mk (Kd.C_below (by repeat (first | (with_reducible exact HR404_2.out) | (with_reducible refine Kd.C_alloc ?_ _) | (with_reducible refine Kd.C_drewN ?_ _) | (with_reducible refine Kd.C_drew ?_) | exact HR404_2.out)) hb); have n4_ := Aside0.mk (below_step (Xb HB.out) hb); have n5_ := Aside0.mk (hbox); have n6_ := Aside0.mk ((by rw [hg]; exact (below_size (Xb HB.out)) : w.heap.size ≤ gb405)); have n7_ := Aside0.mk ((by rw [hg]; exact (below_size (Xb HB.out)) : w.heap.size ≤ gb405)); clear HO_3; clear HO_7; clear HL404_2; clear HR404_2; clear HB; have HO_3 := n0_; have HO_7 := n1_; have HL404_2 := n2_; have HR404_2 := n3_; have HB := n4_; have BK405 := n5_; have GW405 := n6_; have GE405 := n7_; clear n0_ n1_ n2_ n3_ n4_ n5_ n6_ n7_; clear hb hbox hg; have hcz9_0 : w8.cell? ⟨gb405, 0, none⟩ = some (.bool false) := (blk_cell BK405.out 0).trans rfl; have hcz9_1 : w8.cell? ⟨gb405, 1, none⟩ = some (.string (⟨#[]⟩ : ByteArray)) := (blk_cell BK405.out 1).trans rfl; have hcz9_2 : w8.cell? ⟨gb405, 2, none⟩ = some (.slice none 0 0) := (blk_cell BK405.out 2).trans rfl; have hcz9_3 : w8.cell? ⟨gb405, 3, none⟩ = some (.int .i64 0) := (blk_cell BK405.out 3).trans rfl; have hfz9_0 := blk_frozen BK405.out 0; have hfz9_1 := blk_frozen BK405.out 1; have hfz9_2 := blk_frozen BK405.out 2; have hfz9_3 := blk_frozen BK405.out 3) | ((with_reducible refine gate_store (t := 42) (p := 5) rfl ?_); refine store_event (t := 42) (p := 5) (v := ?vo_w10) (w1 := ((((w8.setCell ⟨gb405, 0, none⟩ (.bool ((rd_T42 l0 x9_1).f0))).setCell ⟨gb405, 1, none⟩ (.string ((rd_T42 l0 x9_1).f1))).setCell ⟨gb405, 2, none⟩ (.slice A404_2 ((rd_T42 l0 x9_1).f2).length c404_2)).setCell ⟨gb405, 3, none⟩ (.int .i64 ((rd_T42 l0 x9_1).f3)))) ?hg ?ho ?hn ?hr ?_; (case ho => rfl); (case hg => rfl); (case hn => rfl); (case hr => first | (go_simp; done) | (go_simp; rfl)); intro w10 hw; have n0_ : Aside0 (Kd.N k42 42 w10 w.heap.size (fun k_ => (P0_ k_ ∨ w.heap.size ≤ k_) ∧ k_ ≠ gb405) u3 x3_1) := ⟨(by rw [hw]; exact (by (with_reducible repeat (first | apply Kd.N_alloc | apply Kd.N_drewN | apply Kd.N_drew)); exact Kd.N_mono (Kd.N_far (p := ⟨gb405, 3, none⟩) (Kd.N_far (p := ⟨gb405, 2, none⟩) (Kd.N_far (p := ⟨gb405, 1, none⟩) (Kd.N_far (p := ⟨gb405, 0, none⟩) (Kd.N_mono HO_3.out (fun k_ hk => (⟨hk, hk.2⟩ : _ ∧ k_ ≠ gb405))) (fun _ hk => hk.2) (.bool ((rd_T42 l0 x9_1).f0))) (fun _ hk => hk.2) (.string ((rd_T42 l0 x9_1).f1))) (fun _ hk => hk.2) (.slice A404_2 ((rd_T42 l0 x9_1).f2).length c404_2)) (fun _ hk => hk.2) (.int .i64 ((rd_T42 l0 x9_1).f3))) (fun _ hk => ⟨hk.1.1, hk.1.2⟩)))⟩; have n1_ : Aside0 (Kd.V k42 42 w10 w.heap.size (fun k_ => (P0_ k_ ∨ w.heap.size ≤ k_) ∧ some k_ ≠ (u3 : Value).ownBlock ∧ k_ ≠ gb405) (.slice (some ad404) l0.length c0) l0) := ⟨(by rw [hw]; exact (by (with_reducible repeat (first | apply Kd.V_alloc | apply Kd.V_drewN | apply Kd.V_drew)); exact Kd.V_mono (Kd.V_far (p := ⟨gb405, 3, none⟩) (Kd.V_far (p := ⟨gb405, 2, none⟩) (Kd.V_far (p := ⟨gb405, 1, none⟩) (Kd.V_far (p := ⟨gb405, 0, none⟩) (Kd.V_mono HO_7.out (fun k_ hk => (⟨hk, hk.2⟩ : _ ∧ k_ ≠ gb405))) (fun _ hk => hk.2) (.bool ((rd_T42 l0 x9_1).f0))) (fun _ hk => hk.2) (.string ((rd_T42 l0 x9_1).f1))) (fun _ hk => hk.2) (.slice A404_2 ((rd_T42 l0 x9_1).f2).length c404_2)) (fun _ hk => hk.2) (.int .i64 ((rd_T42 l0 x9_1).f3))) (fun _ hk => ⟨hk.1.1.1, ⟨hk.1.1.2, hk.1.2⟩⟩)))⟩; have n2_ : Aside0 (Kd.V k67 67 w10 w.heap.size (fun k_ => (P0_ k_ ∨ w.heap.size ≤ k_) ∧ some k_ ≠ (u3 : Value).ownBlock ∧ k_ ≠ gb405) (.slice A404_2 ((rd_T42 l0 x9_1).f2).length c404_2) ((rd_T42 l0 x9_1).f2)) := ⟨(by rw [hw]; exact (by (with_reducible repeat (first | apply Kd.V_alloc | apply Kd.V_drewN | apply Kd.V_drew)); exact Kd.V_mono (Kd.V_far (p := ⟨gb405, 3, none⟩) (Kd.V_far (p := ⟨gb405, 2, none⟩) (Kd.V_far (p := ⟨gb405, 1, none⟩) (Kd.V_far (p := ⟨gb405, 0, none⟩) (Kd.V_mono HL404_2.out (fun k_ hk => (⟨hk, hk.2⟩ : _ ∧ k_ ≠ gb405))) (fun _ hk => hk.2) (.bool ((rd_T42 l0 x9_1).f0))) (fun _ hk => hk.2) (.string ((rd_T42 l0 x9_1).f1))) (fun _ hk => hk.2) (.slice A404_2 ((rd_T42 l0 x9_1).f2).length c404_2)) (fun _ hk => hk.2) (.int .i64 ((rd_T42 l0 x9_1).f3))) (fun _ hk => ⟨hk.1.1.1, ⟨hk.1.1.2, hk.1.2⟩⟩)))⟩; have n3_ : Aside0 (w10.heap[gb405]? = some (.cells #[.bool ((rd_T42 l0 x9_1).f0), .string ((rd_T42 l0 x9_1).f1), .slice A404_2 ((rd_T42 l0 x9_1).f2).length c404_2, .int .i64 ((rd_T42 l0 x9_1).f3)] 42 (0, 0))) := ⟨(by rw [hw]; exact (by (with_reducible repeat (first | refine blk_drewN ?_ _ | refine blk_drew ?_ | refine blk_alloc ?_ _)); refine blk_put (cs := #[.bool ((rd_T42 l0 x9_1).f0), .string ((rd_T42 l0 x9_1).f1), .slice A404_2 ((rd_T42 l0 x9_1).f2).length c404_2, .int .i64 0]) ?_ 3 _ rfl; (with_reducible repeat (first | refine blk_drewN ?_ _ | refine blk_drew ?_ | refine blk_alloc ?_ _)); refine blk_put (cs := #[.bool ((rd_T42 l0 x9_1).f0), .string ((rd_T42 l0 x9_1).f1), .slice none 0 0, .int .i64 0]) ?_ 2 _ rfl; (with_reducible repeat (first | refine blk_drewN ?_ _ | refine blk_drew ?_ | refine blk_alloc ?_ _)); refine blk_put (cs := #[.bool ((rd_T42 l0 x9_1).f0), .string (⟨#[]⟩ : ByteArray), .slice none 0 0, .int .i64 0]) ?_ 1 _ rfl; (with_reducible repeat (first | refine blk_drewN ?_ _ | refine blk_drew ?_ | refine blk_alloc ?_ _)); refine blk_put (cs := #[.bool false, .string (⟨#[]⟩ : ByteArray), .slice none 0 0, .int .i64 0]) ?_ 0 _ rfl; (with_reducible repeat (first | refine blk_drewN ?_ _ | refine blk_drew ?_ | refine blk_alloc ?_ _)); exact BK405.out))⟩; have n4_ : Aside0 (Below w.heap.size w w10) := ⟨(by rw [hw]; exact (by repeat (first | (with_reducible first | exact HB.out | apply below_alloc | apply pw_below_drewN | apply below_drew1 | refine below_set ?_ GE405.out) | exact HB.out)))⟩; clear hw; clear HO_3; clear HO_7; clear HL404_2; clear BK405; clear HB; have HO_3 := n0_; have HO_7 := n1_; have HL404_2 := n2_; have BK405 := n3_; have HB := n4_; clear n0_ n1_ n2_ n3_ n4_; have hcz11_0 : w10.cell? ⟨gb405, 0, none⟩ = some (.bool ((rd_T42 l0 x9_1).f0)) := (blk_cell BK405.out 0).trans rfl; have hcz11_1 : w10.cell? ⟨gb405, 1, none⟩ = some (.string ((rd_T42 l0 x9_1).f1)) := (blk_cell BK405.out 1).trans rfl; have hcz11_2 : w10.cell? ⟨gb405, 2, none⟩ = some (.slice A404_2 ((rd_T42 l0 x9_1).f2).length c404_2) := (blk_cell BK405.out 2).trans rfl; have hcz11_3 : w10.cell? ⟨gb405, 3, none⟩ = some (.int .i64 ((rd_T42 l0 x9_1).f3)) := (blk_cell BK405.out 3).trans rfl; have hfz11_0 := blk_frozen BK405.out 0; have hfz11_1 := blk_frozen BK405.out 1; have hfz11_2 := blk_frozen BK405.out 2; have hfz11_3 := blk_frozen BK405.out 3) | ((with_reducible refine gate_store (t := 4) (p := 13) rfl ?_); refine store_event (t := 4) (p := 13) (v := ?vo_w12) (w1 := (w10.setCell ⟨gb405, 0, none⟩ (.bool false))) ?hg ?ho ?hn ?hr ?_; (case ho => rfl); (case hg => rfl); (case hn => rfl); (case hr => first | (go_simp; done) | (go_simp; rfl)); intro w12 hw; have n0_ : Aside0 (Kd.N k42 42 w12 w.heap.size (fun k_ => (P0_ k_ ∨ w.heap.size ≤ k_) ∧ k_ ≠ gb405) u3 x3_1) := ⟨(by rw [hw]; exact (by (with_reducible repeat (first | apply Kd.N_alloc | apply Kd.N_drewN | apply Kd.N_drew)); exact Kd.N_mono (Kd.N_far (p := ⟨gb405, 0, none⟩) (Kd.N_mono HO_3.out (fun k_ hk => (⟨hk, hk.2⟩ : _ ∧ k_ ≠ gb405))) (fun _ hk => hk.2) (.bool false)) (fun _ hk => ⟨hk.1.1, hk.1.2⟩)))⟩; have n1_ : Aside0 (Kd.V k42 42 w12 w.heap.size (fun k_ => (P0_ k_ ∨ w.heap.size ≤ k_) ∧ some k_ ≠ (u3 : Value).ownBlock ∧ k_ ≠ gb405) (.slice (some ad404) l0.length c0) l0) := ⟨(by rw [hw]; exact (by (with_reducible repeat (first | apply Kd.V_alloc | apply Kd.V_drewN | apply Kd.V_drew)); exact Kd.V_mono (Kd.V_far (p := ⟨gb405, 0, none⟩) (Kd.V_mono HO_7.out (fun k_ hk => (⟨hk, hk.2.2⟩ : _ ∧ k_ ≠ gb405))) (fun _ hk => hk.2) (.bool false)) (fun _ hk => ⟨hk.1.1, ⟨hk.1.2.1, hk.1.2.2⟩⟩)))⟩; have n2_ : Aside0 (Kd.V k67 67 w12 w.heap.size (fun k_ => (P0_ k_ ∨ w.heap.size ≤ k_) ∧ some k_ ≠ (u3 : Value).ownBlock ∧ k_ ≠ gb405) (.slice A404_2 ((rd_T42 l0 x9_1).f2).length c404_2) ((rd_T42 l0 x9_1).f2)) := ⟨(by rw [hw]; exact (by (with_reducible repeat (first | apply Kd.V_alloc | apply Kd.V_drewN | apply Kd.V_drew)); exact Kd.V_mono (Kd.V_far (p := ⟨gb405, 0, none⟩) (Kd.V_mono HL404_2.out (fun k_ hk => (⟨hk, hk.2.2⟩ : _ ∧ k_ ≠ gb405))) (fun _ hk => hk.2) (.bool false)) (fun _ hk => ⟨hk.1.1, ⟨hk.1.2.1, hk.1.2.2⟩⟩)))⟩; have n3_ : Aside0 (w12.heap[gb405]? = some (.cells #[.bool false, .string ((rd_T42 l0 x9_1).f1), .slice A404_2 ((rd_T42 l0 x9_1).f2).length c404_2, .int .i64 ((rd_T42 l0 x9_1).f3)] 42 (0, 0))) := ⟨(by rw [hw]; exact (by (with_reducible repeat (first | refine blk_drewN ?_ _ | refine blk_drew ?_ | refine blk_alloc ?_ _)); refine blk_put (cs := #[.bool ((rd_T42 l0 x9_1).f0), .string ((rd_T42 l0 x9_1).f1), .slice A404_2 ((rd_T42 l0 x9_1).f2).length c404_2, .int .i64 ((rd_T42 l0 x9_1).f3)]) ?_ 0 _ rfl; (with_reducible repeat (first | refine blk_drewN ?_ _ | refine blk_drew ?_ | refine blk_alloc ?_ _)); exact BK405.out))⟩; have n4_ : Aside0 (Below w.heap.size w w12) := ⟨(by rw [hw]; exact (by repeat (first | (with_reducible first | exact HB.out | apply below_alloc | apply pw_below_drewN | apply below_drew1 | refine below_set ?_ GE405.out) | exact HB.out)))⟩; clear hw; clear HO_3; clear HO_7; clear HL404_2; clear BK405; clear HB; have HO_3 := n0_; have HO_7 := n1_; have HL404_2 := n2_; have BK405 := n3_; have HB := n4_; clear n0_ n1_ n2_ n3_ n4_; have hcz13_0 : w12.cell? ⟨gb405, 0, none⟩ = some (.bool false) := (blk_cell BK405.out 0).trans rfl; have hcz13_1 : w12.cell? ⟨gb405, 1, none⟩ = some (.string ((rd_T42 l0 x9_1).f1)) := (blk_cell BK405.out 1).trans rfl; have hcz13_2 : w12.cell? ⟨gb405, 2, none⟩ = some (.slice A404_2 ((rd_T42 l0 x9_1).f2).length c404_2) := (blk_cell BK405.out 2).trans rfl; have hcz13_3 : w12.cell? ⟨gb405, 3, none⟩ = some (.int .i64 ((rd_T42 l0 x9_1).f3)) := (blk_cell BK405.out 3).trans rfl; have hfz13_0 := blk_frozen BK405.out 0; have hfz13_1 := blk_frozen BK405.out 1; have hfz13_2 := blk_frozen BK405.out 2; have hfz13_3 := blk_frozen BK405.out 3) | ((with_reducible refine gate_builtin (b := .append) (xs := #[.tmp 14, .tmp 16]) rfl ?_); at_builtin; refine Kd.N_append k42 (w0 := w) w.heap.size rfl (.tmp 14) (.tmp 16) 34 42 (.agg #[(.bool false), (.string ⟨#[]⟩), (.slice none 0 0), (.int .i64 0)]) 56 rfl Tryz.underlying34 info42 rfl (by decide) (by omega) u3 x3_1 (⟨false, (rd_T42 l0 x9_1).f1, (rd_T42 l0 x9_1).f2, (rd_T42 l0 x9_1).f3⟩ : S42) [.bool false, .string ((rd_T42 l0 x9_1).f1), .slice A404_2 ((rd_T42 l0 x9_1).f2).length c404_2, .int .i64 ((rd_T42 l0 x9_1).f3)] (fun k_ => (P0_ k_ ∨ w.heap.size ≤ k_) ∧ k_ ≠ gb405) (fun k_ => ((fun k_ => (P0_ k_ ∨ w.heap.size ≤ k_) ∧ k_ ≠ gb405)) k_ ∧ some k_ ≠ (u3 : Value).ownBlock) rfl rfl ?aP (fun _ hk => hk) ?aF ?aO ?aB ?aS ?aL ?_; (case aP => exact (k42_mkF _ _ (⟨false, (rd_T42 l0 x9_1).f1, (rd_T42 l0 x9_1).f2, (rd_T42 l0 x9_1).f3⟩ : S42) (Kd.V_reads' (Kd.V_mono (ok' := (fun k_ => ((fun k_ => (P0_ k_ ∨ w.heap.size ≤ k_) ∧ k_ ≠ gb405)) k_ ∧ some k_ ≠ (u3 : Value).ownBlock)) (HL404_2.out) (fun k_ hk => ⟨⟨hk.1, hk.2.2⟩, hk.2.1⟩))).2.1 (Kd.V_F (Kd.V_mono (ok' := (fun k_ => ((fun k_ => (P0_ k_ ∨ w.heap.size ≤ k_) ∧ k_ ≠ gb405)) k_ ∧ some k_ ≠ (u3 : Value).ownBlock)) (HL404_2.out) (fun k_ hk => ⟨⟨hk.1, hk.2.2⟩, hk.2.1⟩))))); (case aB => exact (by repeat (first | (with_reducible first | exact HB.out | apply below_alloc | apply pw_below_drewN | apply below_drew1 | refine below_set ?_ GE405.out) | exact HB.out))); (case aF => exact (fun k_ hk => ⟨(.inr (Nat.le_trans (below_size (by repeat (first | (with_reducible first | exact HB.out | apply below_alloc | apply pw_below_drewN | apply below_drew1 | refine below_set ?_ GE405.out) | exact HB.out))) hk)), Kd.freshB (g := gb405) (o := .cells #[.bool false, .string ((rd_T42 l0 x9_1).f1), .slice A404_2 ((rd_T42 l0 x9_1).f2).length c404_2, .int .i64 ((rd_T42 l0 x9_1).f3)] 42 (0, 0)) (by (with_reducible repeat (first | refine blk_drewN ?_ _ | refine blk_drew ?_ | refine blk_alloc ?_ _)); exact BK405.out) k_ hk⟩)); (case aO => exact (XN HO_3.out)); (case aS => exact (below_size (by repeat (first | (with_reducible first | exact HB.out | apply below_alloc | apply pw_below_drewN | apply below_drew1 | refine below_set ?_ GE405.out) | exact HB.out)))); (case aL => have := LMc7.out; omega); intro v407 w14 ho hb hg hat; rw [← Ny406.out] at ho; have n0_ := Aside0.mk (Kd.V_afterv (ok := (fun k_ => (P0_ k_ ∨ w.heap.size ≤ k_) ∧ k_ ≠ gb405)) (by (with_reducible repeat (first | apply Kd.V_alloc | apply Kd.V_drewN | apply Kd.V_drew)); exact Kd.V_mono HO_7.out (fun _ hk => ⟨⟨hk.1, hk.2.2⟩, hk.2.1⟩)) hg hat); have n1_ := Aside0.mk (Kd.V_afterv (ok := (fun k_ => (P0_ k_ ∨ w.heap.size ≤ k_) ∧ k_ ≠ gb405)) (by (with_reducible repeat (first | apply Kd.V_alloc | apply Kd.V_drewN | apply Kd.V_drew)); exact Kd.V_mono HL404_2.out (fun _ hk => ⟨⟨hk.1, hk.2.2⟩, hk.2.1⟩)) hg hat); have n2_ := Aside0.mk (blk_grown (g := gb405) (o := .cells #[.bool false, .string ((rd_T42 l0 x9_1).f1), .slice A404_2 ((rd_T42 l0 x9_1).f2).length c404_2, .int .i64 ((rd_T42 l0 x9_1).f3)] 42 (0, 0)) (by (with_reducible repeat (first | refine blk_drewN ?_ _ | refine blk_drew ?_ | refine blk_alloc ?_ _)); exact BK405.out) hg (Kd.N_away HO_3.out (fun _ hk => hk.2))); have n3_ := Aside0.mk (hb); have n4_ := Aside0.mk (ho); clear HO_7; clear HL404_2; clear BK405; clear HB; clear HO_3; have HO_7 := n0_; have HL404_2 := n1_; have BK405 := n2_; have HB := n3_; have HO408 := n4_; clear n0_ n1_ n2_ n3_ n4_; clear ho hb hg hat))
              go_roundg k1
              case measure => have := HK1.out; omega
              case rel => exact ⟨(y406), (wrap64 (x9_1 + 1)), (by first | rfl | (simp; done) | (simp [*]; done)), H', ⟨by have := HK1.out; omega⟩, ⟨by (with_reducible repeat (first | apply Kd.N_alloc | apply Kd.N_drewN | apply Kd.N_drew)); exact Kd.N_mono HO408.out (fun _ hk => hk.1)⟩, ⟨by (with_reducible repeat (first | apply Kd.V_alloc | apply Kd.V_drewN | apply Kd.V_drew)); exact Kd.V_mono HO_7.out (fun _ hk => ⟨hk.1.1, hk.2⟩)⟩, ⟨by repeat (first | (with_reducible first | exact HB.out | apply below_alloc | apply pw_below_drewN | apply below_drew1 | refine below_set ?_ GE405.out) | exact HB.out)⟩⟩
            · rw [if_neg c7] at H
              exact absurd H (by simp)
          · rw [if_neg c6] at H
            exact absurd H (by simp)
        · rw [if_neg c5] at H
          exact absurd H (by simp)
      · rw [if_neg c4] at H
        have c4b0 : decide (x9_1 < (l0.length : Int)) = false := decide_eq_false c4
        clear c4
        obtain rfl := Option.some.inj H
        go_wp2
        go_ret
        exact ⟨_, by first | rfl | (simp [errW_none, errW_some] <;> rfl) | (simp [*, errW_none, errW_some] <;> rfl), by (with_reducible repeat (first | apply Kd.N_alloc | apply Kd.N_drewN | apply Kd.N_drew)); exact HO_3.out, by repeat (first | (with_reducible first | exact HB.out | apply below_alloc | apply pw_below_drewN | apply below_drew1) | exact HB.out)⟩
end Go.Proofs.YtnoolgbbpekomaaGreatDoor.T
