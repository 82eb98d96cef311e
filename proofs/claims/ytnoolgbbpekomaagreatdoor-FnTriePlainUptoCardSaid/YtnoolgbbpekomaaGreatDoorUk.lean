/- As the print has them, turned for the tree: laws_plainly. -/
import Derived.Test.YtnoolgbbpekomaaGreatDoorVz
namespace Go.Proofs.YtnoolgbbpekomaaGreatDoor.T
open Go.RowKit YtnoolgbbpekomaaGreatDoorW.PrintWords YtnoolgbbpekomaaGreatDoorW.PrintLast YtnoolgbbpekomaaGreatDoorW.PrintMore
attribute [local go_sem] max2_int min2_int max_two min_two max_three min_three max_four min_four   -- for this text's walks alone
set_option linter.unusedVariables false
set_option linter.unusedSimpArgs false
/-! ### laws_plainly: function 39 -/
def laws_plainly.l0 : Nat → List (S42) → List (S42) → Int → Int → Option ((List (S42)))
  | 0, _, _, _, _ => none
  | k + 1, x3, x7, x8, x9 => if x9 < x8 then (if 0 ≤ x9 then (if x9 < (x7.length : Int) then (if x3.length < 2513169434916 then (laws_plainly.l0 k (x3 ++ [(⟨(rd_T42 x7 x9).f0, (rd_T42 x7 x9).f1, ([] : List (S67)), (rd_T42 x7 x9).f3⟩ : S42)]) x7 x8 (wrap64 (x9 + 1))) else (none)) else (none)) else (none)) else (some x3)
def laws_plainly.f (k : Nat) (l0 : List (S42)) : Option ((List (S42))) := laws_plainly.l0 k (([] : List (S42))) l0 (l0.length : Int) 0
theorem laws_plainly.mono_l : ∀ k, (∀ y0 y1 y2 y3, LeO (laws_plainly.l0 k y0 y1 y2 y3) (laws_plainly.l0 (k + 1) y0 y1 y2 y3))
  | 0 => fun _ _ _ _ r h => by simp [laws_plainly.l0] at h
  | k + 1 => by
    have ih0 := laws_plainly.mono_l k
    · intro y0 y1 y2 y3
      unfold laws_plainly.l0
      repeat' first
      | (with_reducible exact ih0 _ _ _ _)
      | (with_reducible exact LeO.refl _)
      | (with_reducible exact LeO.none _)
      | (with_reducible refine LeO.ite ?_ ?_)
      | (with_reducible refine LeO.bind ?_ (fun _ => ?_))
      | exact ih0 _ _ _ _
      | exact LeO.none _
      | refine LeO.ite ?_ ?_
      | refine LeO.bind ?_ (fun _ => ?_)
theorem laws_plainly.mono : ∀ a0 k, LeO (laws_plainly.f k a0) (laws_plainly.f (k + 1) a0) := by
  intro a0 k
  have ih0 := laws_plainly.mono_l k
  unfold laws_plainly.f
  repeat' first
      | (with_reducible exact ih0 _ _ _ _)
      | (with_reducible exact LeO.refl _)
      | (with_reducible exact LeO.none _)
      | (with_reducible refine LeO.ite ?_ ?_)
      | (with_reducible refine LeO.bind ?_ (fun _ => ?_))
      | exact ih0 _ _ _ _
      | exact LeO.none _
      | refine LeO.ite ?_ ?_
      | refine LeO.bind ?_ (fun _ => ?_)
set_option maxHeartbeats 8000000 in
set_option maxRecDepth 100000 in
theorem laws_plainly.calls (k : Nat) (A0 : Option Addr) (c0 : Nat) (l0 : List (S42)) (r : List (S42)) (w : World) (hr0 : Kd.C k42 w A0 l0.length l0) (hc0 : l0.length ≤ c0) (h : laws_plainly.f k l0 = some r) :
    Calls Tryz.prog 39 #[.slice A0 l0.length c0] w fun e w' => ∃ v0_ : Value, e = .returned (v0_) ∧ Kd.S k42 42 w' w.heap.size (fun _ => True) v0_ r ∧ Below w.heap.size w w' := by
  have hu42 := Tryz.underlying42
  have HR0 := Aside0.mk hr0
  have HC0 := Aside0.mk hc0
  clear hr0 hc0
  have HB := Aside0.mk (Below.refl w.heap.size w)
  have H : (laws_plainly.l0 k (([] : List (S42))) l0 (l0.length : Int) 0) = some r := h
  clear h
  obtain ⟨y443, hy443⟩ : ∃ y_ : List (S42), y_ = (([] : List (S42))) := ⟨_, rfl⟩
  replace H : (laws_plainly.l0 k y443 l0 (l0.length : Int) 0) = some r := by first | (rw [hy443]; with_reducible exact H) | (have H2_ := (Option.bind_some _ _).symm.trans H; rw [hy443]; with_reducible exact H2_) | (have H2_ := (Option.bind_some _ _).symm.trans H; with_reducible exact H2_) | with_reducible exact H | (rw [hy443]; exact H) | exact H
  have Ny443 := Aside0.mk hy443
  clear hy443
  have H' := Aside0.mk H
  clear H
  go_enter Tryz.func39, Tryz.ntmps39
  go_wp2_with (first | ((with_reducible refine gate_dst (N := 6) rfl ?_); refine Kd.S_lit k42 _ 42 ?hg (N := 6) ?hd (xs := ([] : List (S42))) (inner := []) (ok := fun _ => True) (okp := fun _ => True) ?hr ?hp (fun _ hk => hk) trivial (Below.refl _ _) (Nat.le_refl _) (by simp) ?_; (case hd => rfl); (case hg => rfl); (case hr => first | (go_simp; done) | (go_simp; rfl)); (case hp => exact (Reps.none _ _)); intro v444 w2 ho3 hb hg_ hnew_; clear hg_ hnew_; (first | rw [← Ny443.out] at ho3 | (simp only [Int.reduceToNat] at ho3; rw [← Ny443.out] at ho3)); have n0_ := Aside0.mk (Kd.S_lower ho3 (below_size (Xb HB.out))); have n1_ := Aside0.mk (below_step (Xb HB.out) hb); clear HB; have HO445 := n0_; have HB := n1_; clear n0_ n1_; clear hb ho3))
  go_loopg [3, 9] k (fun kq v3 v9 w' => ∃ (x3_1 : List (S42)) (x9_1 : Int), v9 = .int .i64 x9_1 ∧ Aside0 (laws_plainly.l0 kq x3_1 l0 (l0.length : Int) x9_1 = some r) ∧ Aside0 (kq ≤ k) ∧ Aside0 (Kd.S k42 42 w' w.heap.size (fun _ => True) v3 x3_1) ∧ Aside0 (Below w.heap.size w w'))
  case atStart => exact ⟨(y443), (0), (by first | rfl | (simp; done) | (simp [*]; done)), H', ⟨Nat.le_refl _⟩, ⟨by (with_reducible repeat (first | apply Kd.S_alloc | apply Kd.S_drewN | apply Kd.S_drew)); exact HO445.out⟩, ⟨by repeat (first | (with_reducible first | exact HB.out | apply below_alloc | apply pw_below_drewN | apply below_drew1) | exact HB.out)⟩⟩
  case round =>
    clear H'
    try clear p2
    try clear c3
    obtain ⟨x3_1, x9_1, rfl, HA, HK1, HO_3, HB⟩ := hrel
    cases gk with
    | zero => exact absurd HA.out (by simp [laws_plainly.l0])
    | succ k1 =>
      have H := HA.out
      clear HA
      simp only [laws_plainly.l0] at H
      by_cases c4 : x9_1 < (l0.length : Int)
      · rw [if_pos c4] at H
        have c4b0 : decide (x9_1 < (l0.length : Int)) = true := decide_eq_true c4
        clear c4
        by_cases c5 : 0 ≤ x9_1
        · rw [if_pos c5] at H
          have c5b0 : decide (0 ≤ x9_1) = true := decide_eq_true c5
          clear c5
          by_cases c6 : x9_1 < (l0.length : Int)
          · rw [if_pos c6] at H
            have c6b0 : decide (x9_1 < (l0.length : Int)) = true := decide_eq_true c6
            clear c6
            by_cases c7 : x3_1.length < 2513169434916
            · rw [if_pos c7] at H
              have LMc7 := Aside0.mk c7
              clear c7
              obtain ⟨y448, hy448⟩ : ∃ y_ : List (S42), y_ = (x3_1 ++ [(⟨(rd_T42 l0 x9_1).f0, (rd_T42 l0 x9_1).f1, ([] : List (S67)), (rd_T42 l0 x9_1).f3⟩ : S42)]) := ⟨_, rfl⟩
              replace H : (laws_plainly.l0 k1 y448 l0 (l0.length : Int) (wrap64 (x9_1 + 1))) = some r := by first | (rw [hy448]; with_reducible exact H) | (have H2_ := (Option.bind_some _ _).symm.trans H; rw [hy448]; with_reducible exact H2_) | (have H2_ := (Option.bind_some _ _).symm.trans H; with_reducible exact H2_) | with_reducible exact H | (rw [hy448]; exact H) | exact H
              have Ny448 := Aside0.mk hy448
              clear hy448
              have H' := Aside0.mk H
              clear H
              have p446 : 0 ≤ (x9_1 : Int) := of_decide_eq_true (by first | (with_reducible assumption) | assumption)
              have q446 : x9_1 < (l0.length : Int) := of_decide_eq_true (by first | (with_reducible assumption) | assumption)
              obtain ⟨ad446, A446_2, c446_2, e446, hx446_0, hx446_1, hx446_2, hx446_3, hl446_2, hi446_2⟩ := at_T42 HR0.out x9_1 p446 q446
              cases e446
              replace hx446_0 := (HB.out.cell (World.block_lt_of_cell? w _ hx446_0)).trans hx446_0
              replace hx446_1 := (HB.out.cell (World.block_lt_of_cell? w _ hx446_1)).trans hx446_1
              replace hx446_2 := (HB.out.cell (World.block_lt_of_cell? w _ hx446_2)).trans hx446_2
              replace hx446_3 := (HB.out.cell (World.block_lt_of_cell? w _ hx446_3)).trans hx446_3
              have HR446_2 := Aside0.mk hi446_2
              have HC446_2 := Aside0.mk hl446_2
              clear hi446_2 hl446_2
              replace p446 := eq_true p446
              replace q446 := eq_true q446
              go_wp2_with (first | ((with_reducible refine gate_dst (N := 5) rfl ?_); refine box_event ?hg (N := 5) ?hd (cs := #[.bool false, .string (⟨#[]⟩ : ByteArray), .slice none 0 0, .int .i64 0]) (t := 42) ?hr ?_; (case hd => rfl); (case hg => rfl); (case hr => first | (go_simp; done) | (go_simp; rfl)); intro gb447 hg w8 hbox hb; have n0_ := Aside0.mk (Kd.S_below (Kd.S_elderB (XS HO_3.out) gb447 (Nat.le_of_eq hg.symm)) hb); have n1_ := Aside0.mk (below_step (Xb HB.out) hb); have n2_ := Aside0.mk (hbox); have n3_ := Aside0.mk ((by rw [hg]; exact (below_size (Xb HB.out)) : w.heap.size ≤ gb447)); have n4_ := Aside0.mk ((by rw [hg]; exact (below_size (Xb HB.out)) : w.heap.size ≤ gb447)); clear HO_3; clear HB; have HO_3 := Aside0.mk (Kd.S_mono n0_.out (ok' := (fun k_ => k_ ≠ gb447)) (fun _ hk => hk.2)); have HB := n1_; have BK447 := n2_; have GW447 := n3_; have GE447 := n4_; clear n0_ n1_ n2_ n3_ n4_; clear hb hbox hg; have hcz9_0 : w8.cell? ⟨gb447, 0, none⟩ = some (.bool false) := (blk_cell BK447.out 0).trans rfl; have hcz9_1 : w8.cell? ⟨gb447, 1, none⟩ = some (.string (⟨#[]⟩ : ByteArray)) := (blk_cell BK447.out 1).trans rfl; have hcz9_2 : w8.cell? ⟨gb447, 2, none⟩ = some (.slice none 0 0) := (blk_cell BK447.out 2).trans rfl; have hcz9_3 : w8.cell? ⟨gb447, 3, none⟩ = some (.int .i64 0) := (blk_cell BK447.out 3).trans rfl; have hfz9_0 := blk_frozen BK447.out 0; have hfz9_1 := blk_frozen BK447.out 1; have hfz9_2 := blk_frozen BK447.out 2; have hfz9_3 := blk_frozen BK447.out 3) | ((with_reducible refine gate_store (t := 42) (p := 5) rfl ?_); refine store_event (t := 42) (p := 5) (v := ?vo_w110) (w1 := ((((w8.setCell ⟨gb447, 0, none⟩ (.bool ((rd_T42 l0 x9_1).f0))).setCell ⟨gb447, 1, none⟩ (.string ((rd_T42 l0 x9_1).f1))).setCell ⟨gb447, 2, none⟩ (.slice A446_2 ((rd_T42 l0 x9_1).f2).length c446_2)).setCell ⟨gb447, 3, none⟩ (.int .i64 ((rd_T42 l0 x9_1).f3)))) ?hg ?ho ?hn ?hr ?_; (case ho => rfl); (case hg => rfl); (case hn => rfl); (case hr => first | (go_simp; done) | (go_simp; rfl)); intro w110 hw; have n0_ : Aside0 (Kd.S k42 42 w110 w.heap.size (fun k_ => k_ ≠ gb447) u3 x3_1) := ⟨(by rw [hw]; exact Kd.S_mono (Kd.S_far (p := ⟨gb447, 3, none⟩) (Kd.S_far (p := ⟨gb447, 2, none⟩) (Kd.S_far (p := ⟨gb447, 1, none⟩) (Kd.S_far (p := ⟨gb447, 0, none⟩) (Kd.S_mono HO_3.out (fun k_ hk => (⟨hk, hk⟩ : _ ∧ k_ ≠ gb447))) (fun _ hk => hk.2) (.bool ((rd_T42 l0 x9_1).f0))) (fun _ hk => hk.2) (.string ((rd_T42 l0 x9_1).f1))) (fun _ hk => hk.2) (.slice A446_2 ((rd_T42 l0 x9_1).f2).length c446_2)) (fun _ hk => hk.2) (.int .i64 ((rd_T42 l0 x9_1).f3))) (fun _ hk => hk.1))⟩; have n3_ : Aside0 (w110.heap[gb447]? = some (.cells #[.bool ((rd_T42 l0 x9_1).f0), .string ((rd_T42 l0 x9_1).f1), .slice A446_2 ((rd_T42 l0 x9_1).f2).length c446_2, .int .i64 ((rd_T42 l0 x9_1).f3)] 42 (0, 0))) := ⟨(by rw [hw]; exact (blk_set (blk_set (blk_set (blk_set BK447.out 0 (.bool ((rd_T42 l0 x9_1).f0))) 1 (.string ((rd_T42 l0 x9_1).f1))) 2 (.slice A446_2 ((rd_T42 l0 x9_1).f2).length c446_2)) 3 (.int .i64 ((rd_T42 l0 x9_1).f3))))⟩; have n4_ : Aside0 (Below w.heap.size w w110) := ⟨(by rw [hw]; exact (by repeat (first | (with_reducible first | exact HB.out | apply below_alloc | apply pw_below_drewN | apply below_drew1 | refine below_set ?_ GE447.out) | exact HB.out)))⟩; clear hw; clear HO_3; clear BK447; clear HB; have HO_3 := n0_; have BK447 := n3_; have HB := n4_; clear n0_ n3_ n4_; have hcz110_0 : w110.cell? ⟨gb447, 0, none⟩ = some (.bool ((rd_T42 l0 x9_1).f0)) := (blk_cell BK447.out 0).trans rfl; have hcz110_1 : w110.cell? ⟨gb447, 1, none⟩ = some (.string ((rd_T42 l0 x9_1).f1)) := (blk_cell BK447.out 1).trans rfl; have hcz110_2 : w110.cell? ⟨gb447, 2, none⟩ = some (.slice A446_2 ((rd_T42 l0 x9_1).f2).length c446_2) := (blk_cell BK447.out 2).trans rfl; have hcz110_3 : w110.cell? ⟨gb447, 3, none⟩ = some (.int .i64 ((rd_T42 l0 x9_1).f3)) := (blk_cell BK447.out 3).trans rfl; have hfz110_0 := blk_frozen BK447.out 0; have hfz110_1 := blk_frozen BK447.out 1; have hfz110_2 := blk_frozen BK447.out 2; have hfz110_3 := blk_frozen BK447.out 3) | ((with_reducible refine gate_store (t := 22) (p := 13) rfl ?_); refine store_event (t := 22) (p := 13) (v := ?vo_w112) (w1 := (w110.setCell ⟨gb447, 2, none⟩ (.slice none 0 0))) ?hg ?ho ?hn ?hr ?_; (case ho => rfl); (case hg => rfl); (case hn => rfl); (case hr => first | (go_simp; done) | (go_simp; rfl)); intro w112 hw; have n0_ : Aside0 (Kd.S k42 42 w112 w.heap.size (fun k_ => k_ ≠ gb447) u3 x3_1) := ⟨(by rw [hw]; exact Kd.S_mono (Kd.S_far (p := ⟨gb447, 2, none⟩) (Kd.S_mono HO_3.out (fun k_ hk => (⟨hk, hk⟩ : _ ∧ k_ ≠ gb447))) (fun _ hk => hk.2) (.slice none 0 0)) (fun _ hk => hk.1))⟩; have n3_ : Aside0 (w112.heap[gb447]? = some (.cells #[.bool ((rd_T42 l0 x9_1).f0), .string ((rd_T42 l0 x9_1).f1), .slice none 0 0, .int .i64 ((rd_T42 l0 x9_1).f3)] 42 (0, 0))) := ⟨(by rw [hw]; exact (blk_set BK447.out 2 (.slice none 0 0)))⟩; have n4_ : Aside0 (Below w.heap.size w w112) := ⟨(by rw [hw]; exact (by repeat (first | (with_reducible first | exact HB.out | apply below_alloc | apply pw_below_drewN | apply below_drew1 | refine below_set ?_ GE447.out) | exact HB.out)))⟩; clear hw; clear HO_3; clear BK447; clear HB; have HO_3 := n0_; have BK447 := n3_; have HB := n4_; clear n0_ n3_ n4_; have hcz112_0 : w112.cell? ⟨gb447, 0, none⟩ = some (.bool ((rd_T42 l0 x9_1).f0)) := (blk_cell BK447.out 0).trans rfl; have hcz112_1 : w112.cell? ⟨gb447, 1, none⟩ = some (.string ((rd_T42 l0 x9_1).f1)) := (blk_cell BK447.out 1).trans rfl; have hcz112_2 : w112.cell? ⟨gb447, 2, none⟩ = some (.slice none 0 0) := (blk_cell BK447.out 2).trans rfl; have hcz112_3 : w112.cell? ⟨gb447, 3, none⟩ = some (.int .i64 ((rd_T42 l0 x9_1).f3)) := (blk_cell BK447.out 3).trans rfl; have hfz112_0 := blk_frozen BK447.out 0; have hfz112_1 := blk_frozen BK447.out 1; have hfz112_2 := blk_frozen BK447.out 2; have hfz112_3 := blk_frozen BK447.out 3) | ((with_reducible refine gate_builtin (b := .append) (xs := #[.tmp 14, .tmp 16]) rfl ?_); at_builtin; refine Kd.S_append k42 (w0 := w) w.heap.size rfl (.tmp 14) (.tmp 16) 34 42 (.agg #[(.bool false), (.string ⟨#[]⟩), (.slice none 0 0), (.int .i64 0)]) 56 rfl Tryz.underlying34 info42 rfl (by decide) (by omega) u3 x3_1 (⟨(rd_T42 l0 x9_1).f0, (rd_T42 l0 x9_1).f1, ([] : List (S67)), (rd_T42 l0 x9_1).f3⟩ : S42) [.bool ((rd_T42 l0 x9_1).f0), .string ((rd_T42 l0 x9_1).f1), .slice none 0 0, .int .i64 ((rd_T42 l0 x9_1).f3)] (fun k_ => k_ ≠ gb447) (fun _ => False) rfl rfl ?aP (fun k_ hk_ => hk_.elim) ?aF ?aO ?aB ?aS ?aL ?_; (case aP => exact k42_mkM _ _ _ (⟨(rd_T42 l0 x9_1).f0, (rd_T42 l0 x9_1).f1, ([] : List (S67)), (rd_T42 l0 x9_1).f3⟩ : S42) (Kd.R_nil _ _ _ _ _)); (case aB => exact (by repeat (first | (with_reducible first | exact HB.out | apply below_alloc | apply pw_below_drewN | apply below_drew1 | refine below_set ?_ GE447.out) | exact HB.out))); (case aF => exact (fun k_ hk => Kd.freshB (g := gb447) (o := .cells #[.bool ((rd_T42 l0 x9_1).f0), .string ((rd_T42 l0 x9_1).f1), .slice none 0 0, .int .i64 ((rd_T42 l0 x9_1).f3)] 42 (0, 0)) (by (with_reducible repeat (first | refine blk_drewN ?_ _ | refine blk_drew ?_ | refine blk_alloc ?_ _)); exact BK447.out) k_ hk)); (case aO => exact (by (with_reducible repeat (first | apply Kd.S_alloc | apply Kd.S_drewN | apply Kd.S_drew)); exact Kd.S_mono HO_3.out (fun _ hk => ⟨hk, fun h => h⟩))); (case aS => exact (below_size (by repeat (first | (with_reducible first | exact HB.out | apply below_alloc | apply pw_below_drewN | apply below_drew1 | refine below_set ?_ GE447.out) | exact HB.out)))); (case aL => have := LMc7.out; omega); intro v449 w10 ho hb hg hat; rw [← Ny448.out] at ho; have n2_ := Aside0.mk (hb); have n3_ := Aside0.mk (ho); clear BK447; clear HB; clear HO_3; have HB := n2_; have HO450 := n3_; clear n2_ n3_; clear ho hb hg hat))
              go_roundg k1
              case measure => have := HK1.out; omega
              case rel => exact ⟨(y448), (wrap64 (x9_1 + 1)), (by first | rfl | (simp; done) | (simp [*]; done)), H', ⟨by have := HK1.out; omega⟩, ⟨by (with_reducible repeat (first | apply Kd.S_alloc | apply Kd.S_drewN | apply Kd.S_drew)); exact Kd.S_mono HO450.out (fun _ hk => trivial)⟩, ⟨by repeat (first | (with_reducible first | exact HB.out | apply below_alloc | apply pw_below_drewN | apply below_drew1 | refine below_set ?_ GE447.out) | exact HB.out)⟩⟩
            · rw [if_neg c7] at H
              exact absurd H (by simp)
          · rw [if_neg c6] at H
            exact absurd H (by simp)
        · rw [if_neg c5] at H
          exact absurd H (by simp)
      · rw [if_neg c4] at H
        have c4b0 : decide (x9_1 < (l0.length : Int)) = false := decide_eq_false c4
        clear c4
        obtain rfl := Option.some.inj H
        go_wp2
        go_ret
        exact ⟨_, by first | rfl | (simp [errW_none, errW_some] <;> rfl) | (simp [*, errW_none, errW_some] <;> rfl), by (with_reducible repeat (first | apply Kd.S_alloc | apply Kd.S_drewN | apply Kd.S_drew)); exact HO_3.out, by repeat (first | (with_reducible first | exact HB.out | apply below_alloc | apply pw_below_drewN | apply below_drew1) | exact HB.out)⟩
end Go.Proofs.YtnoolgbbpekomaaGreatDoor.T
