/- As the print has them, turned for the tree: spec_Ways. -/
import Derived.Test.YtnoolgbbpekomaaGreatDoorVz
import Derived.Test.YtnoolgbbpekomaaGreatDoorUd
namespace Go.Proofs.YtnoolgbbpekomaaGreatDoor.T
open Go.RowKit YtnoolgbbpekomaaGreatDoorW.PrintWords YtnoolgbbpekomaaGreatDoorW.PrintLast YtnoolgbbpekomaaGreatDoorW.PrintMore
attribute [local go_sem] max2_int min2_int max_two min_two max_three min_three max_four min_four   -- for this text's walks alone
set_option linter.unusedVariables false
set_option linter.unusedSimpArgs false
/-! ### spec_Ways: function 38 -/
mutual
def spec_Ways.l0 : Nat → List (S42) → Int → List (S42) → Int → Int → Option (Int)
 | 0, _, _, _, _, _ => none
 | k + 1, x0, x3, x10, x11, x12 => if x12 < x11 then (if 0 ≤ x12 then (if x12 < (x10.length : Int) then (spec_Ways.l1 k x0 x3 x12 1 x10 x11 x12 ((rd_T42 x10 x12).f0) ((rd_T42 x10 x12).f1) ((rd_T42 x10 x12).f2) ((rd_T42 x10 x12).f3)) else (none)) else (none)) else (some x3)
def spec_Ways.l1 : Nat → List (S42) → Int → Int → Int → List (S42) → Int → Int → Bool → ByteArray → List (S67) → Int → Option (Int)
 | 0, _, _, _, _, _, _, _, _, _, _, _ => none
 | k + 1, x0, x3, x4, x6, x10, x11, x12, x411000, x411001, x411002, x411003 => if x6 ≤ (x411001.size : Int) then (if 0 ≤ x4 then (if x4 ≤ (x0.length : Int) then ((some (x0.take (x4 : Int).toNat : List (S42))).bind fun y411 => (spec_Ways.l2 k x0 x3 x4 x6 false x10 x11 x12 y411 (y411.length : Int) 0 x411000 x411001 x411002 x411003)) else (none)) else (none)) else (spec_Ways.l0 k x0 x3 x10 x11 (wrap64 (x12 + 1)))
def spec_Ways.l2 : Nat → List (S42) → Int → Int → Int → Bool → List (S42) → Int → Int → List (S42) → Int → Int → Bool → ByteArray → List (S67) → Int → Option (Int)
 | 0, _, _, _, _, _, _, _, _, _, _, _, _, _, _, _ => none
 | k + 1, x0, x3, x4, x6, x7, x10, x11, x12, x26, x27, x28, x411000, x411001, x411002, x411003 => if x28 < x27 then (if 0 ≤ x28 then (if x28 < (x26.length : Int) then (if x7 = true then (spec_Ways.l2 k x0 x3 x4 x6 true x10 x11 x12 x26 x27 (wrap64 (x28 + 1)) x411000 x411001 x411002 x411003) else (if (((rd_T42 x26 x28).f1).size : Int) ≥ x6 then ((spec_sameStart.f k ((rd_T42 x26 x28).f0) ((rd_T42 x26 x28).f1) ((rd_T42 x26 x28).f2) ((rd_T42 x26 x28).f3) x411000 x411001 x411002 x411003 x6).bind fun t417 => (spec_Ways.l2 k x0 x3 x4 x6 t417 x10 x11 x12 x26 x27 (wrap64 (x28 + 1)) x411000 x411001 x411002 x411003)) else (spec_Ways.l2 k x0 x3 x4 x6 false x10 x11 x12 x26 x27 (wrap64 (x28 + 1)) x411000 x411001 x411002 x411003))) else (none)) else (none)) else (if x7 = true then (spec_Ways.l1 k x0 x3 x4 (wrap64 (x6 + 1)) x10 x11 x12 x411000 x411001 x411002 x411003) else (spec_Ways.l1 k x0 (wrap64 (x3 + 1)) x4 (wrap64 (x6 + 1)) x10 x11 x12 x411000 x411001 x411002 x411003))
end
def spec_Ways.f (k : Nat) (l0 : List (S42)) : Option (Int) := spec_Ways.l0 k l0 0 l0 (l0.length : Int) 0
theorem spec_Ways.mono_l : ∀ k, (∀ y0 y1 y2 y3 y4, LeO (spec_Ways.l0 k y0 y1 y2 y3 y4) (spec_Ways.l0 (k + 1) y0 y1 y2 y3 y4)) ∧ (∀ y0 y1 y2 y3 y4 y5 y6 y7 y8 y9 y10, LeO (spec_Ways.l1 k y0 y1 y2 y3 y4 y5 y6 y7 y8 y9 y10) (spec_Ways.l1 (k + 1) y0 y1 y2 y3 y4 y5 y6 y7 y8 y9 y10)) ∧ (∀ y0 y1 y2 y3 y4 y5 y6 y7 y8 y9 y10 y11 y12 y13 y14, LeO (spec_Ways.l2 k y0 y1 y2 y3 y4 y5 y6 y7 y8 y9 y10 y11 y12 y13 y14) (spec_Ways.l2 (k + 1) y0 y1 y2 y3 y4 y5 y6 y7 y8 y9 y10 y11 y12 y13 y14))
 | 0 => ⟨fun _ _ _ _ _ r h => by simp [spec_Ways.l0] at h, fun _ _ _ _ _ _ _ _ _ _ _ r h => by simp [spec_Ways.l1] at h, fun _ _ _ _ _ _ _ _ _ _ _ _ _ _ _ r h => by simp [spec_Ways.l2] at h⟩
 | k + 1 => by
  obtain ⟨ih0, ih1, ih2⟩ := spec_Ways.mono_l k
  refine ⟨?_, ?_, ?_⟩
  ·intro y0 y1 y2 y3 y4
   unfold spec_Ways.l0
   repeat' first
   | (with_reducible exact ih0 _ _ _ _ _)
   | (with_reducible exact ih1 _ _ _ _ _ _ _ _ _ _ _)
   | (with_reducible exact ih2 _ _ _ _ _ _ _ _ _ _ _ _ _ _ _)
   | (with_reducible exact spec_sameStart.mono _ _ _ _ _ _ _ _ _ _)
   | (with_reducible exact LeO.refl _)
   | (with_reducible exact LeO.none _)
   | (with_reducible refine LeO.ite ?_ ?_)
   | (with_reducible refine LeO.bind ?_ (fun _ => ?_))
   | exact ih0 _ _ _ _ _
   | exact ih1 _ _ _ _ _ _ _ _ _ _ _
   | exact ih2 _ _ _ _ _ _ _ _ _ _ _ _ _ _ _
   | exact spec_sameStart.mono _ _ _ _ _ _ _ _ _ _
   | exact LeO.none _
   | refine LeO.ite ?_ ?_
   | refine LeO.bind ?_ (fun _ => ?_)
  ·intro y0 y1 y2 y3 y4 y5 y6 y7 y8 y9 y10
   unfold spec_Ways.l1
   repeat' first
   | (with_reducible exact ih0 _ _ _ _ _)
   | (with_reducible exact ih1 _ _ _ _ _ _ _ _ _ _ _)
   | (with_reducible exact ih2 _ _ _ _ _ _ _ _ _ _ _ _ _ _ _)
   | (with_reducible exact spec_sameStart.mono _ _ _ _ _ _ _ _ _ _)
   | (with_reducible exact LeO.refl _)
   | (with_reducible exact LeO.none _)
   | (with_reducible refine LeO.ite ?_ ?_)
   | (with_reducible refine LeO.bind ?_ (fun _ => ?_))
   | exact ih0 _ _ _ _ _
   | exact ih1 _ _ _ _ _ _ _ _ _ _ _
   | exact ih2 _ _ _ _ _ _ _ _ _ _ _ _ _ _ _
   | exact spec_sameStart.mono _ _ _ _ _ _ _ _ _ _
   | exact LeO.none _
   | refine LeO.ite ?_ ?_
   | refine LeO.bind ?_ (fun _ => ?_)
  ·intro y0 y1 y2 y3 y4 y5 y6 y7 y8 y9 y10 y11 y12 y13 y14
   unfold spec_Ways.l2
   repeat' first
   | (with_reducible exact ih0 _ _ _ _ _)
   | (with_reducible exact ih1 _ _ _ _ _ _ _ _ _ _ _)
   | (with_reducible exact ih2 _ _ _ _ _ _ _ _ _ _ _ _ _ _ _)
   | (with_reducible exact spec_sameStart.mono _ _ _ _ _ _ _ _ _ _)
   | (with_reducible exact LeO.refl _)
   | (with_reducible exact LeO.none _)
   | (with_reducible refine LeO.ite ?_ ?_)
   | (with_reducible refine LeO.bind ?_ (fun _ => ?_))
   | exact ih0 _ _ _ _ _
   | exact ih1 _ _ _ _ _ _ _ _ _ _ _
   | exact ih2 _ _ _ _ _ _ _ _ _ _ _ _ _ _ _
   | exact spec_sameStart.mono _ _ _ _ _ _ _ _ _ _
   | exact LeO.none _
   | refine LeO.ite ?_ ?_
   | refine LeO.bind ?_ (fun _ => ?_)
theorem spec_Ways.mono : ∀ a0 k, LeO (spec_Ways.f k a0) (spec_Ways.f (k + 1) a0) := by
 intro a0 k
 obtain ⟨ih0, ih1, ih2⟩ := spec_Ways.mono_l k
 unfold spec_Ways.f
 repeat' first
   | (with_reducible exact ih0 _ _ _ _ _)
   | (with_reducible exact ih1 _ _ _ _ _ _ _ _ _ _ _)
   | (with_reducible exact ih2 _ _ _ _ _ _ _ _ _ _ _ _ _ _ _)
   | (with_reducible exact spec_sameStart.mono _ _ _ _ _ _ _ _ _ _)
   | (with_reducible exact LeO.refl _)
   | (with_reducible exact LeO.none _)
   | (with_reducible refine LeO.ite ?_ ?_)
   | (with_reducible refine LeO.bind ?_ (fun _ => ?_))
   | exact ih0 _ _ _ _ _
   | exact ih1 _ _ _ _ _ _ _ _ _ _ _
   | exact ih2 _ _ _ _ _ _ _ _ _ _ _ _ _ _ _
   | exact spec_sameStart.mono _ _ _ _ _ _ _ _ _ _
   | exact LeO.none _
   | refine LeO.ite ?_ ?_
   | refine LeO.bind ?_ (fun _ => ?_)
set_option maxHeartbeats 8000000 in
set_option maxRecDepth 100000 in
theorem spec_Ways.calls (k : Nat) (A0 : Option Addr) (c0 : Nat) (l0 : List (S42)) (r : Int) (w : World) (hr0 : Kd.C k42 w A0 l0.length l0) (hc0 : l0.length ≤ c0) (h : spec_Ways.f k l0 = some r) :
  Calls Tryz.prog 38 #[.slice A0 l0.length c0] w fun e w' => e = .returned (.int .i64 r) ∧ Below w.heap.size w w' := by
 have hu42 := Tryz.underlying42
 have HR0 := Aside0.mk hr0
 have HC0 := Aside0.mk hc0
 clear hr0 hc0
 have HB := Aside0.mk (Below.refl w.heap.size w)
 have H : (spec_Ways.l0 k l0 0 l0 (l0.length : Int) 0) = some r := h
 clear h
 have H' := Aside0.mk H
 clear H
 go_enter Tryz.func38, Tryz.ntmps38
 go_wp2
 go_loopg [3, 12] k (fun kq v3 v12 w' => ∃ (x3_1 : Int) (x12_1 : Int), v3 = .int .i64 x3_1 ∧ v12 = .int .i64 x12_1 ∧ Aside0 (spec_Ways.l0 kq l0 x3_1 l0 (l0.length : Int) x12_1 = some r) ∧ Aside0 (kq ≤ k) ∧ Aside0 (Below w.heap.size w w'))
 case atStart => exact ⟨(0), (0), (by first | rfl | (simp; done) | (simp [*]; done)), (by first | rfl | (simp; done) | (simp [*]; done)), H', ⟨Nat.le_refl _⟩, ⟨by repeat (first | (with_reducible first | exact HB.out | apply below_alloc | apply pw_below_drewN | apply below_drew1) | exact HB.out)⟩⟩
 case round =>
  clear H'
  obtain ⟨x3_1, x12_1, rfl, rfl, HA, HK1, HB⟩ := hrel
  cases gk with
  | zero => exact absurd HA.out (by simp [spec_Ways.l0])
  | succ k1 =>
   have H := HA.out
   clear HA
   simp only [spec_Ways.l0] at H
   by_cases c2 : x12_1 < (l0.length : Int)
   ·rw [if_pos c2] at H
    have c2b0 : decide (x12_1 < (l0.length : Int)) = true := decide_eq_true c2
    clear c2
    by_cases c3 : 0 ≤ x12_1
    ·rw [if_pos c3] at H
     have c3b0 : decide (0 ≤ x12_1) = true := decide_eq_true c3
     clear c3
     by_cases c4 : x12_1 < (l0.length : Int)
     ·rw [if_pos c4] at H
      have c4b0 : decide (x12_1 < (l0.length : Int)) = true := decide_eq_true c4
      clear c4
      have H' := Aside0.mk H
      clear H
      have p409 : 0 ≤ (x12_1 : Int) := of_decide_eq_true (by first | (with_reducible assumption) | assumption)
      have q409 : x12_1 < (l0.length : Int) := of_decide_eq_true (by first | (with_reducible assumption) | assumption)
      obtain ⟨ad409, A409_2, c409_2, e409, hx409_0, hx409_1, hx409_2, hx409_3, hl409_2, hi409_2⟩ := at_T42 HR0.out x12_1 p409 q409
      cases e409
      replace hx409_0 := (HB.out.cell (World.block_lt_of_cell? w _ hx409_0)).trans hx409_0
      replace hx409_1 := (HB.out.cell (World.block_lt_of_cell? w _ hx409_1)).trans hx409_1
      replace hx409_2 := (HB.out.cell (World.block_lt_of_cell? w _ hx409_2)).trans hx409_2
      replace hx409_3 := (HB.out.cell (World.block_lt_of_cell? w _ hx409_3)).trans hx409_3
      have HR409_2 := Aside0.mk hi409_2
      have HC409_2 := Aside0.mk hl409_2
      clear hi409_2 hl409_2
      replace p409 := eq_true p409
      replace q409 := eq_true q409
      go_wp2_with (first | ((with_reducible refine gate_dst (N := 5) rfl ?_); (try (refine gate_guard (by rfl) ?_; dsimp only)); refine box_event ?hg (N := 5) ?hd (cs := #[.bool false, .string (⟨#[]⟩ : ByteArray), .slice none 0 0, .int .i64 0]) (t := 42) ?hr ?_; (case hd => rfl); (case hg => rfl); (case hr => first | (go_simp; done) | (go_simp; rfl)); intro gb410 hg w5 hbox hb; have n0_ := Aside0.mk (below_step (Xb HB.out) hb); have n1_ := Aside0.mk (hbox); have n2_ := Aside0.mk ((by rw [hg]; exact (below_size (Xb HB.out)) : w.heap.size ≤ gb410)); have n3_ := Aside0.mk ((by rw [hg]; exact (below_size (Xb HB.out)) : w.heap.size ≤ gb410)); clear HB; have HB := n0_; have BK410 := n1_; have GW410 := n2_; have GE410 := n3_; clear n0_ n1_ n2_ n3_; clear hb hbox hg; have hcz6_0 : w5.cell? ⟨gb410, 0, none⟩ = some (.bool false) := (blk_cell BK410.out 0).trans rfl; have hcz6_1 : w5.cell? ⟨gb410, 1, none⟩ = some (.string (⟨#[]⟩ : ByteArray)) := (blk_cell BK410.out 1).trans rfl; have hcz6_2 : w5.cell? ⟨gb410, 2, none⟩ = some (.slice none 0 0) := (blk_cell BK410.out 2).trans rfl; have hcz6_3 : w5.cell? ⟨gb410, 3, none⟩ = some (.int .i64 0) := (blk_cell BK410.out 3).trans rfl; have hfz6_0 := blk_frozen BK410.out 0; have hfz6_1 := blk_frozen BK410.out 1; have hfz6_2 := blk_frozen BK410.out 2; have hfz6_3 := blk_frozen BK410.out 3))
      go_loopg [3, 6] k1 (fun kq v3 v6 w' => ∃ (x3_2 : Int) (x6_2 : Int), v3 = .int .i64 x3_2 ∧ v6 = .int .i64 x6_2 ∧ Aside0 (spec_Ways.l1 kq l0 x3_2 x12_1 x6_2 l0 (l0.length : Int) x12_1 ((rd_T42 l0 x12_1).f0) ((rd_T42 l0 x12_1).f1) ((rd_T42 l0 x12_1).f2) ((rd_T42 l0 x12_1).f3) = some r) ∧ Aside0 (kq ≤ k1) ∧ Aside0 (w'.heap[gb410]? = some (.cells #[.bool ((rd_T42 l0 x12_1).f0), .string ((rd_T42 l0 x12_1).f1), (.slice A409_2 ((rd_T42 l0 x12_1).f2).length c409_2), .int .i64 ((rd_T42 l0 x12_1).f3)] 42 (0, 0))) ∧ Aside0 (Below w.heap.size w w'))
      case atStart => exact ⟨(x3_1), (1), (by first | rfl | (simp; done) | (simp [*]; done)), (by first | rfl | (simp; done) | (simp [*]; done)), H', ⟨Nat.le_refl _⟩, ⟨by (with_reducible repeat (first | refine blk_drewN ?_ _ | refine blk_drew ?_ | refine blk_alloc ?_ _)); refine blk_put (cs := #[.bool ((rd_T42 l0 x12_1).f0), .string ((rd_T42 l0 x12_1).f1), .slice A409_2 ((rd_T42 l0 x12_1).f2).length c409_2, .int .i64 0]) ?_ 3 _ rfl; (with_reducible repeat (first | refine blk_drewN ?_ _ | refine blk_drew ?_ | refine blk_alloc ?_ _)); refine blk_put (cs := #[.bool ((rd_T42 l0 x12_1).f0), .string ((rd_T42 l0 x12_1).f1), .slice none 0 0, .int .i64 0]) ?_ 2 _ rfl; (with_reducible repeat (first | refine blk_drewN ?_ _ | refine blk_drew ?_ | refine blk_alloc ?_ _)); refine blk_put (cs := #[.bool ((rd_T42 l0 x12_1).f0), .string (⟨#[]⟩ : ByteArray), .slice none 0 0, .int .i64 0]) ?_ 1 _ rfl; (with_reducible repeat (first | refine blk_drewN ?_ _ | refine blk_drew ?_ | refine blk_alloc ?_ _)); refine blk_put (cs := #[.bool false, .string (⟨#[]⟩ : ByteArray), .slice none 0 0, .int .i64 0]) ?_ 0 _ rfl; (with_reducible repeat (first | refine blk_drewN ?_ _ | refine blk_drew ?_ | refine blk_alloc ?_ _)); exact BK410.out⟩, ⟨by repeat (first | (with_reducible first | exact HB.out | apply below_alloc | apply pw_below_drewN | apply below_drew1 | refine below_set ?_ GE410.out) | exact HB.out)⟩⟩
      case round =>
       clear H'
       try clear c2
       try clear c2b0
       try clear p2
       try clear c3
       try clear c3b0
       try clear c4
       try clear c4b0
       try clear p4
       try clear q4
       try clear hx4
       try clear hcz6_0
       try clear hcz6_1
       try clear hcz6_2
       try clear hcz6_3
       try clear hfz6_0
       try clear hfz6_1
       try clear hfz6_2
       try clear hfz6_3
       try clear hx409_0
       try clear hx409_1
       try clear hx409_2
       try clear hx409_3
       try clear p409
       try clear q409
       obtain ⟨x3_2, x6_2, rfl, rfl, HA, HK2, BK410, HB⟩ := hrel
       cases gk with
       | zero => exact absurd HA.out (by simp [spec_Ways.l1])
       | succ k2 =>
        have H := HA.out
        clear HA
        simp only [spec_Ways.l1] at H
        by_cases c7 : x6_2 ≤ (((rd_T42 l0 x12_1).f1).size : Int)
        ·rw [if_pos c7] at H
         have c7b0 : decide (x6_2 ≤ (((rd_T42 l0 x12_1).f1).size : Int)) = true := decide_eq_true c7
         clear c7
         by_cases c8 : 0 ≤ x12_1
         ·rw [if_pos c8] at H
          have c8b0 := eq_true c8
          have c8b1 : decide (0 ≤ x12_1) = true := decide_eq_true c8
          clear c8
          by_cases c9 : x12_1 ≤ (l0.length : Int)
          ·rw [if_pos c9] at H
           have c9b0 := eq_true c9
           have c9b1 : decide (x12_1 ≤ (l0.length : Int)) = true := decide_eq_true c9
           clear c9
           obtain ⟨y411, hy411⟩ : ∃ y_ : List (S42), y_ = (l0.take (x12_1 : Int).toNat) := ⟨_, rfl⟩
           replace H : (spec_Ways.l2 k2 l0 x3_2 x12_1 x6_2 false l0 (l0.length : Int) x12_1 y411 (y411.length : Int) 0 ((rd_T42 l0 x12_1).f0) ((rd_T42 l0 x12_1).f1) ((rd_T42 l0 x12_1).f2) ((rd_T42 l0 x12_1).f3)) = some r := by first | (rw [hy411]; with_reducible exact H) | (have H2_ := (Option.bind_some _ _).symm.trans H; rw [hy411]; with_reducible exact H2_) | (have H2_ := (Option.bind_some _ _).symm.trans H; with_reducible exact H2_) | with_reducible exact H | (rw [hy411]; exact H) | exact H
           have Ny411 := Aside0.mk hy411
           clear hy411
           have H' := Aside0.mk H
           clear H
           have hcz10_0 : wr.cell? ⟨gb410, 0, none⟩ = some (.bool ((rd_T42 l0 x12_1).f0)) := (blk_cell BK410.out 0).trans rfl
           have hcz10_1 : wr.cell? ⟨gb410, 1, none⟩ = some (.string ((rd_T42 l0 x12_1).f1)) := (blk_cell BK410.out 1).trans rfl
           have hcz10_2 : wr.cell? ⟨gb410, 2, none⟩ = some (.slice A409_2 ((rd_T42 l0 x12_1).f2).length c409_2) := (blk_cell BK410.out 2).trans rfl
           have hcz10_3 : wr.cell? ⟨gb410, 3, none⟩ = some (.int .i64 ((rd_T42 l0 x12_1).f3)) := (blk_cell BK410.out 3).trans rfl
           have hfz10_0 := blk_frozen BK410.out 0
           have hfz10_1 := blk_frozen BK410.out 1
           have hfz10_2 := blk_frozen BK410.out 2
           have hfz10_3 := blk_frozen BK410.out 3
           have q11 : (x12_1 : Int) ≤ ((l0.length : Int) : Int) := of_decide_eq_true (by first | (with_reducible assumption) | assumption)
           obtain ⟨i011, hi011, _, hsz11, _⟩ := info_parts info42
           have hroom11 : l0.length ≤ c0 := HC0.out
           have hC11 : Kd.C k42 _ (some ad409) l0.length l0 := HR0.out
           have hcut11 := cut_to (P := Tryz.prog) 34 42 .i64 Tryz.underlying34 hi011 (some ad409) l0.length c0 x12_1 (of_decide_eq_true (by first | (with_reducible assumption) | assumption)) q11 hroom11
           have hr11 := Kd.C_take (m := (x12_1 : Int).toNat) hC11 (by omega)
           have hy11 : y411.length = (x12_1 : Int).toNat := (by rw [Ny411.out, List.length_take]; omega)
           rw [← Ny411.out] at hr11
           rw [← hy11] at hcut11
           have HR414 := Aside0.mk hr11
           have HC414 := Aside0.mk (show y411.length ≤ c0 from by omega)
           clear hr11 hC11 hroom11 hi011 hsz11
           have KY11 := Aside0.mk hy11
           clear hy11
           replace q11 := eq_true q11
           go_wp2
           go_loopg [7, 28] k2 (fun kq v7 v28 w' => ∃ (x7_3 : Bool) (x28_3 : Int), v7 = .bool x7_3 ∧ v28 = .int .i64 x28_3 ∧ Aside0 (spec_Ways.l2 kq l0 x3_2 x12_1 x6_2 x7_3 l0 (l0.length : Int) x12_1 y411 (y411.length : Int) x28_3 ((rd_T42 l0 x12_1).f0) ((rd_T42 l0 x12_1).f1) ((rd_T42 l0 x12_1).f2) ((rd_T42 l0 x12_1).f3) = some r) ∧ Aside0 (kq ≤ k2) ∧ Aside0 (w'.heap[gb410]? = some (.cells #[.bool ((rd_T42 l0 x12_1).f0), .string ((rd_T42 l0 x12_1).f1), (.slice A409_2 ((rd_T42 l0 x12_1).f2).length c409_2), .int .i64 ((rd_T42 l0 x12_1).f3)] 42 (0, 0))) ∧ Aside0 (Below w.heap.size w w'))
           case atStart => exact ⟨(false), (0), (by first | rfl | (simp; done) | (simp [*]; done)), (by first | rfl | (simp; done) | (simp [*]; done)), H', ⟨Nat.le_refl _⟩, ⟨by (with_reducible repeat (first | refine blk_drewN ?_ _ | refine blk_drew ?_ | refine blk_alloc ?_ _)); exact BK410.out⟩, ⟨by repeat (first | (with_reducible first | exact HB.out | apply below_alloc | apply pw_below_drewN | apply below_drew1 | refine below_set ?_ GE410.out) | exact HB.out)⟩⟩
           case round =>
            clear H'
            try clear q1
            try clear c2
            try clear c2b0
            try clear p2
            try clear c3
            try clear c3b0
            try clear c4
            try clear c4b0
            try clear p4
            try clear q4
            try clear hx4
            try clear c7
            try clear c7b0
            try clear c8
            try clear c8b0
            try clear c8b1
            try clear c9
            try clear c9b0
            try clear c9b1
            try clear q11
            try clear hcz10_0
            try clear hcz10_1
            try clear hcz10_2
            try clear hcz10_3
            try clear hcz6_0
            try clear hcz6_1
            try clear hcz6_2
            try clear hcz6_3
            try clear hfz10_0
            try clear hfz10_1
            try clear hfz10_2
            try clear hfz10_3
            try clear hfz6_0
            try clear hfz6_1
            try clear hfz6_2
            try clear hfz6_3
            try clear hx409_0
            try clear hx409_1
            try clear hx409_2
            try clear hx409_3
            try clear p2
            try clear p4
            try clear p409
            try clear q11
            try clear q4
            try clear q409
            obtain ⟨x7_3, x28_3, rfl, rfl, HA, HK3, BK410, HB⟩ := hrel
            cases gk with
            | zero => exact absurd HA.out (by simp [spec_Ways.l2])
            | succ k3 =>
             have H := HA.out
             clear HA
             simp only [spec_Ways.l2] at H
             by_cases c12 : x28_3 < (y411.length : Int)
             ·rw [if_pos c12] at H
              have c12b0 : decide (x28_3 < (y411.length : Int)) = true := decide_eq_true c12
              clear c12
              by_cases c13 : 0 ≤ x28_3
              ·rw [if_pos c13] at H
               have c13b0 : decide (0 ≤ x28_3) = true := decide_eq_true c13
               clear c13
               by_cases c14 : x28_3 < (y411.length : Int)
               ·rw [if_pos c14] at H
                have c14b0 : decide (x28_3 < (y411.length : Int)) = true := decide_eq_true c14
                clear c14
                by_cases c15 : x7_3 = true
                ·subst c15
                 have H1 : (spec_Ways.l2 k3 l0 x3_2 x12_1 x6_2 true l0 (l0.length : Int) x12_1 y411 (y411.length : Int) (wrap64 (x28_3 + 1)) ((rd_T42 l0 x12_1).f0) ((rd_T42 l0 x12_1).f1) ((rd_T42 l0 x12_1).f2) ((rd_T42 l0 x12_1).f3)) = some r := by rw [if_pos rfl] at H; exact H
                 clear H
                 have H := H1
                 clear H1
                 have H' := Aside0.mk H
                 clear H
                 have p415 : 0 ≤ (x28_3 : Int) := of_decide_eq_true (by first | (with_reducible assumption) | assumption)
                 have q415 : x28_3 < (y411.length : Int) := of_decide_eq_true (by first | (with_reducible assumption) | assumption)
                 obtain ⟨ad415, A415_2, c415_2, e415, hx415_0, hx415_1, hx415_2, hx415_3, hl415_2, hi415_2⟩ := at_T42 HR414.out x28_3 p415 q415
                 obtain rfl : ad409 = ad415 := (by injection e415)
                 replace hx415_0 := (HB.out.cell (World.block_lt_of_cell? w _ hx415_0)).trans hx415_0
                 replace hx415_1 := (HB.out.cell (World.block_lt_of_cell? w _ hx415_1)).trans hx415_1
                 replace hx415_2 := (HB.out.cell (World.block_lt_of_cell? w _ hx415_2)).trans hx415_2
                 replace hx415_3 := (HB.out.cell (World.block_lt_of_cell? w _ hx415_3)).trans hx415_3
                 have HR415_2 := Aside0.mk hi415_2
                 have HC415_2 := Aside0.mk hl415_2
                 clear hi415_2 hl415_2
                 replace p415 := eq_true p415
                 replace q415 := eq_true q415
                 go_wp2_with (first | ((with_reducible refine gate_dst (N := 9) rfl ?_); (try (refine gate_guard (by rfl) ?_; dsimp only)); refine box_event ?hg (N := 9) ?hd (cs := #[.bool false, .string (⟨#[]⟩ : ByteArray), .slice none 0 0, .int .i64 0]) (t := 42) ?hr ?_; (case hd => rfl); (case hg => rfl); (case hr => first | (go_simp; done) | (go_simp; rfl)); intro gb416 hg w16 hbox hb; have n0_ := Aside0.mk (blk_below (g := gb410) (o := .cells #[.bool ((rd_T42 l0 x12_1).f0), .string ((rd_T42 l0 x12_1).f1), .slice A409_2 ((rd_T42 l0 x12_1).f2).length c409_2, .int .i64 ((rd_T42 l0 x12_1).f3)] 42 (0, 0)) (by (with_reducible repeat (first | refine blk_drewN ?_ _ | refine blk_drew ?_ | refine blk_alloc ?_ _)); exact BK410.out) hb); have n1_ := Aside0.mk (below_step (by repeat (first | (with_reducible first | exact HB.out | apply below_alloc | apply pw_below_drewN | apply below_drew1 | refine below_set ?_ GE410.out) | exact HB.out)) hb); have n2_ := Aside0.mk (hbox); have n3_ := Aside0.mk ((by rw [hg]; exact (below_size (by repeat (first | (with_reducible first | exact HB.out | apply below_alloc | apply pw_below_drewN | apply below_drew1 | refine below_set ?_ GE410.out) | exact HB.out))) : w.heap.size ≤ gb416)); have n4_ := Aside0.mk ((by rw [hg]; exact (below_size (by repeat (first | (with_reducible first | exact HB.out | apply below_alloc | apply pw_below_drewN | apply below_drew1 | refine below_set ?_ GE410.out) | exact HB.out))) : w.heap.size ≤ gb416)); have n5_ := Aside0.mk ((by rw [hg]; exact Nat.ne_of_lt (blk_lt (g := gb410) (o := .cells #[.bool ((rd_T42 l0 x12_1).f0), .string ((rd_T42 l0 x12_1).f1), .slice A409_2 ((rd_T42 l0 x12_1).f2).length c409_2, .int .i64 ((rd_T42 l0 x12_1).f3)] 42 (0, 0)) (by (with_reducible repeat (first | refine blk_drewN ?_ _ | refine blk_drew ?_ | refine blk_alloc ?_ _)); exact BK410.out)) : gb410 ≠ gb416)); have n6_ := Aside0.mk ((by rw [hg]; exact Nat.ne_of_gt (blk_lt (g := gb410) (o := .cells #[.bool ((rd_T42 l0 x12_1).f0), .string ((rd_T42 l0 x12_1).f1), .slice A409_2 ((rd_T42 l0 x12_1).f2).length c409_2, .int .i64 ((rd_T42 l0 x12_1).f3)] 42 (0, 0)) (by (with_reducible repeat (first | refine blk_drewN ?_ _ | refine blk_drew ?_ | refine blk_alloc ?_ _)); exact BK410.out)) : gb416 ≠ gb410)); clear BK410; clear HB; have BK410 := n0_; have HB := n1_; have BK416 := n2_; have GW416 := n3_; have GE416 := n4_; have NB410_416 := n5_; have NB416_410 := n6_; clear n0_ n1_ n2_ n3_ n4_ n5_ n6_; clear hb hbox hg; have hnb17 := NB416_410.out; have hnc17 := NB410_416.out; have hcz18_0 : w16.cell? ⟨gb416, 0, none⟩ = some (.bool false) := (blk_cell BK416.out 0).trans rfl; have hcz18_1 : w16.cell? ⟨gb416, 1, none⟩ = some (.string (⟨#[]⟩ : ByteArray)) := (blk_cell BK416.out 1).trans rfl; have hcz18_2 : w16.cell? ⟨gb416, 2, none⟩ = some (.slice none 0 0) := (blk_cell BK416.out 2).trans rfl; have hcz18_3 : w16.cell? ⟨gb416, 3, none⟩ = some (.int .i64 0) := (blk_cell BK416.out 3).trans rfl; have hfz18_0 := blk_frozen BK416.out 0; have hfz18_1 := blk_frozen BK416.out 1; have hfz18_2 := blk_frozen BK416.out 2; have hfz18_3 := blk_frozen BK416.out 3))
                 go_roundg k3
                 case measure => have := HK1.out; have := HK2.out; have := HK3.out; omega
                 case rel => exact ⟨(true), (wrap64 (x28_3 + 1)), (by first | rfl | (simp; done) | (simp [*]; done)), (by first | rfl | (simp; done) | (simp [*]; done)), H', ⟨by have := HK1.out; have := HK2.out; have := HK3.out; omega⟩, ⟨by (with_reducible repeat (first | refine blk_drewN ?_ _ | refine blk_drew ?_ | refine blk_alloc ?_ _)); refine blk_far ?_ NB410_416.out _; (with_reducible repeat (first | refine blk_drewN ?_ _ | refine blk_drew ?_ | refine blk_alloc ?_ _)); refine blk_far ?_ NB410_416.out _; (with_reducible repeat (first | refine blk_drewN ?_ _ | refine blk_drew ?_ | refine blk_alloc ?_ _)); refine blk_far ?_ NB410_416.out _; (with_reducible repeat (first | refine blk_drewN ?_ _ | refine blk_drew ?_ | refine blk_alloc ?_ _)); refine blk_far ?_ NB410_416.out _; (with_reducible repeat (first | refine blk_drewN ?_ _ | refine blk_drew ?_ | refine blk_alloc ?_ _)); exact BK410.out⟩, ⟨by repeat (first | (with_reducible first | exact HB.out | apply below_alloc | apply pw_below_drewN | apply below_drew1 | refine below_set ?_ GE410.out | refine below_set ?_ GE416.out) | exact HB.out)⟩⟩
                ·replace c15 := Bool.eq_false_iff.mpr c15
                 subst c15
                 have H1 : (if (((rd_T42 y411 x28_3).f1).size : Int) ≥ x6_2 then ((spec_sameStart.f k3 ((rd_T42 y411 x28_3).f0) ((rd_T42 y411 x28_3).f1) ((rd_T42 y411 x28_3).f2) ((rd_T42 y411 x28_3).f3) ((rd_T42 l0 x12_1).f0) ((rd_T42 l0 x12_1).f1) ((rd_T42 l0 x12_1).f2) ((rd_T42 l0 x12_1).f3) x6_2).bind fun t417 => (spec_Ways.l2 k3 l0 x3_2 x12_1 x6_2 t417 l0 (l0.length : Int) x12_1 y411 (y411.length : Int) (wrap64 (x28_3 + 1)) ((rd_T42 l0 x12_1).f0) ((rd_T42 l0 x12_1).f1) ((rd_T42 l0 x12_1).f2) ((rd_T42 l0 x12_1).f3))) else (spec_Ways.l2 k3 l0 x3_2 x12_1 x6_2 false l0 (l0.length : Int) x12_1 y411 (y411.length : Int) (wrap64 (x28_3 + 1)) ((rd_T42 l0 x12_1).f0) ((rd_T42 l0 x12_1).f1) ((rd_T42 l0 x12_1).f2) ((rd_T42 l0 x12_1).f3))) = some r := by rw [if_neg (show ¬ (false = true) by decide)] at H; exact H
                 clear H
                 have H := H1
                 clear H1
                 by_cases c19 : (((rd_T42 y411 x28_3).f1).size : Int) ≥ x6_2
                 ·rw [if_pos c19] at H
                  have c19b0 : decide (x6_2 ≤ (((rd_T42 y411 x28_3).f1).size : Int)) = true := decide_eq_true c19
                  clear c19
                  replace H := Option.bind_eq_some_iff.mp H
                  obtain ⟨t417, A200, H⟩ := H
                  replace H : (spec_Ways.l2 k3 l0 x3_2 x12_1 x6_2 t417 l0 (l0.length : Int) x12_1 y411 (y411.length : Int) (wrap64 (x28_3 + 1)) ((rd_T42 l0 x12_1).f0) ((rd_T42 l0 x12_1).f1) ((rd_T42 l0 x12_1).f2) ((rd_T42 l0 x12_1).f3)) = some r := H
                  have A20 := Aside0.mk A200
                  clear A200
                  have H' := Aside0.mk H
                  clear H
                  have p415 : 0 ≤ (x28_3 : Int) := of_decide_eq_true (by first | (with_reducible assumption) | assumption)
                  have q415 : x28_3 < (y411.length : Int) := of_decide_eq_true (by first | (with_reducible assumption) | assumption)
                  obtain ⟨ad415, A415_2, c415_2, e415, hx415_0, hx415_1, hx415_2, hx415_3, hl415_2, hi415_2⟩ := at_T42 HR414.out x28_3 p415 q415
                  obtain rfl : ad409 = ad415 := (by injection e415)
                  replace hx415_0 := (HB.out.cell (World.block_lt_of_cell? w _ hx415_0)).trans hx415_0
                  replace hx415_1 := (HB.out.cell (World.block_lt_of_cell? w _ hx415_1)).trans hx415_1
                  replace hx415_2 := (HB.out.cell (World.block_lt_of_cell? w _ hx415_2)).trans hx415_2
                  replace hx415_3 := (HB.out.cell (World.block_lt_of_cell? w _ hx415_3)).trans hx415_3
                  have HR415_2 := Aside0.mk hi415_2
                  have HC415_2 := Aside0.mk hl415_2
                  clear hi415_2 hl415_2
                  replace p415 := eq_true p415
                  replace q415 := eq_true q415
                  go_wp2_with (first | ((with_reducible refine gate_dst (N := 9) rfl ?_); (try (refine gate_guard (by rfl) ?_; dsimp only)); refine box_event ?hg (N := 9) ?hd (cs := #[.bool false, .string (⟨#[]⟩ : ByteArray), .slice none 0 0, .int .i64 0]) (t := 42) ?hr ?_; (case hd => rfl); (case hg => rfl); (case hr => first | (go_simp; done) | (go_simp; rfl)); intro gb416 hg w21 hbox hb; have n0_ := Aside0.mk (blk_below (g := gb410) (o := .cells #[.bool ((rd_T42 l0 x12_1).f0), .string ((rd_T42 l0 x12_1).f1), .slice A409_2 ((rd_T42 l0 x12_1).f2).length c409_2, .int .i64 ((rd_T42 l0 x12_1).f3)] 42 (0, 0)) (by (with_reducible repeat (first | refine blk_drewN ?_ _ | refine blk_drew ?_ | refine blk_alloc ?_ _)); exact BK410.out) hb); have n1_ := Aside0.mk (below_step (by repeat (first | (with_reducible first | exact HB.out | apply below_alloc | apply pw_below_drewN | apply below_drew1 | refine below_set ?_ GE410.out) | exact HB.out)) hb); have n2_ := Aside0.mk (hbox); have n3_ := Aside0.mk ((by rw [hg]; exact (below_size (by repeat (first | (with_reducible first | exact HB.out | apply below_alloc | apply pw_below_drewN | apply below_drew1 | refine below_set ?_ GE410.out) | exact HB.out))) : w.heap.size ≤ gb416)); have n4_ := Aside0.mk ((by rw [hg]; exact (below_size (by repeat (first | (with_reducible first | exact HB.out | apply below_alloc | apply pw_below_drewN | apply below_drew1 | refine below_set ?_ GE410.out) | exact HB.out))) : w.heap.size ≤ gb416)); have n5_ := Aside0.mk ((by rw [hg]; exact Nat.ne_of_lt (blk_lt (g := gb410) (o := .cells #[.bool ((rd_T42 l0 x12_1).f0), .string ((rd_T42 l0 x12_1).f1), .slice A409_2 ((rd_T42 l0 x12_1).f2).length c409_2, .int .i64 ((rd_T42 l0 x12_1).f3)] 42 (0, 0)) (by (with_reducible repeat (first | refine blk_drewN ?_ _ | refine blk_drew ?_ | refine blk_alloc ?_ _)); exact BK410.out)) : gb410 ≠ gb416)); have n6_ := Aside0.mk ((by rw [hg]; exact Nat.ne_of_gt (blk_lt (g := gb410) (o := .cells #[.bool ((rd_T42 l0 x12_1).f0), .string ((rd_T42 l0 x12_1).f1), .slice A409_2 ((rd_T42 l0 x12_1).f2).length c409_2, .int .i64 ((rd_T42 l0 x12_1).f3)] 42 (0, 0)) (by (with_reducible repeat (first | refine blk_drewN ?_ _ | refine blk_drew ?_ | refine blk_alloc ?_ _)); exact BK410.out)) : gb416 ≠ gb410)); clear BK410; clear HB; have BK410 := n0_; have HB := n1_; have BK416 := n2_; have GW416 := n3_; have GE416 := n4_; have NB410_416 := n5_; have NB416_410 := n6_; clear n0_ n1_ n2_ n3_ n4_ n5_ n6_; clear hb hbox hg; have hnb22 := NB416_410.out; have hnc22 := NB410_416.out; have hcz23_0 : w21.cell? ⟨gb416, 0, none⟩ = some (.bool false) := (blk_cell BK416.out 0).trans rfl; have hcz23_1 : w21.cell? ⟨gb416, 1, none⟩ = some (.string (⟨#[]⟩ : ByteArray)) := (blk_cell BK416.out 1).trans rfl; have hcz23_2 : w21.cell? ⟨gb416, 2, none⟩ = some (.slice none 0 0) := (blk_cell BK416.out 2).trans rfl; have hcz23_3 : w21.cell? ⟨gb416, 3, none⟩ = some (.int .i64 0) := (blk_cell BK416.out 3).trans rfl; have hfz23_0 := blk_frozen BK416.out 0; have hfz23_1 := blk_frozen BK416.out 1; have hfz23_2 := blk_frozen BK416.out 2; have hfz23_3 := blk_frozen BK416.out 3; have hcz24_0 : w21.cell? ⟨gb410, 0, none⟩ = some (.bool ((rd_T42 l0 x12_1).f0)) := (blk_cell BK410.out 0).trans rfl; have hcz24_1 : w21.cell? ⟨gb410, 1, none⟩ = some (.string ((rd_T42 l0 x12_1).f1)) := (blk_cell BK410.out 1).trans rfl; have hcz24_2 : w21.cell? ⟨gb410, 2, none⟩ = some (.slice A409_2 ((rd_T42 l0 x12_1).f2).length c409_2) := (blk_cell BK410.out 2).trans rfl; have hcz24_3 : w21.cell? ⟨gb410, 3, none⟩ = some (.int .i64 ((rd_T42 l0 x12_1).f3)) := (blk_cell BK410.out 3).trans rfl; have hfz24_0 := blk_frozen BK410.out 0; have hfz24_1 := blk_frozen BK410.out 1; have hfz24_2 := blk_frozen BK410.out 2; have hfz24_3 := blk_frozen BK410.out 3) | (go_at_call 42; (with_reducible refine (spec_sameStart.calls k3 ((rd_T42 y411 x28_3).f0) ((rd_T42 y411 x28_3).f1) _ _ ((rd_T42 y411 x28_3).f2) ((rd_T42 y411 x28_3).f3) ((rd_T42 l0 x12_1).f0) ((rd_T42 l0 x12_1).f1) _ _ ((rd_T42 l0 x12_1).f2) ((rd_T42 l0 x12_1).f3) x6_2 t417 _ ?side1 ?side2 ?side3 ?side4 A20.out).mono ?_); (case side1 => exact Kd.C_below HR415_2.out (by repeat (first | (with_reducible first | exact HB.out | apply below_alloc | apply pw_below_drewN | apply below_drew1 | refine below_set ?_ GE410.out | refine below_set ?_ GE416.out) | exact HB.out))); (case side2 => exact HC415_2.out); (case side3 => exact Kd.C_below HR409_2.out (by repeat (first | (with_reducible first | exact HB.out | apply below_alloc | apply pw_below_drewN | apply below_drew1 | refine below_set ?_ GE410.out | refine below_set ?_ GE416.out) | exact HB.out))); (case side4 => exact HC409_2.out); rintro e w25 ⟨rfl, hb⟩; have n0_ := Aside0.mk (blk_below (g := gb410) (o := .cells #[.bool ((rd_T42 l0 x12_1).f0), .string ((rd_T42 l0 x12_1).f1), .slice A409_2 ((rd_T42 l0 x12_1).f2).length c409_2, .int .i64 ((rd_T42 l0 x12_1).f3)] 42 (0, 0)) (by (with_reducible repeat (first | refine blk_drewN ?_ _ | refine blk_drew ?_ | refine blk_alloc ?_ _)); refine blk_far ?_ NB410_416.out _; (with_reducible repeat (first | refine blk_drewN ?_ _ | refine blk_drew ?_ | refine blk_alloc ?_ _)); refine blk_far ?_ NB410_416.out _; (with_reducible repeat (first | refine blk_drewN ?_ _ | refine blk_drew ?_ | refine blk_alloc ?_ _)); refine blk_far ?_ NB410_416.out _; (with_reducible repeat (first | refine blk_drewN ?_ _ | refine blk_drew ?_ | refine blk_alloc ?_ _)); refine blk_far ?_ NB410_416.out _; (with_reducible repeat (first | refine blk_drewN ?_ _ | refine blk_drew ?_ | refine blk_alloc ?_ _)); exact BK410.out) hb); have n1_ := Aside0.mk (blk_below (g := gb416) (o := .cells #[.bool ((rd_T42 y411 x28_3).f0), .string ((rd_T42 y411 x28_3).f1), .slice A415_2 ((rd_T42 y411 x28_3).f2).length c415_2, .int .i64 ((rd_T42 y411 x28_3).f3)] 42 (0, 0)) (by (with_reducible repeat (first | refine blk_drewN ?_ _ | refine blk_drew ?_ | refine blk_alloc ?_ _)); refine blk_put (cs := #[.bool ((rd_T42 y411 x28_3).f0), .string ((rd_T42 y411 x28_3).f1), .slice A415_2 ((rd_T42 y411 x28_3).f2).length c415_2, .int .i64 0]) ?_ 3 _ rfl; (with_reducible repeat (first | refine blk_drewN ?_ _ | refine blk_drew ?_ | refine blk_alloc ?_ _)); refine blk_put (cs := #[.bool ((rd_T42 y411 x28_3).f0), .string ((rd_T42 y411 x28_3).f1), .slice none 0 0, .int .i64 0]) ?_ 2 _ rfl; (with_reducible repeat (first | refine blk_drewN ?_ _ | refine blk_drew ?_ | refine blk_alloc ?_ _)); refine blk_put (cs := #[.bool ((rd_T42 y411 x28_3).f0), .string (⟨#[]⟩ : ByteArray), .slice none 0 0, .int .i64 0]) ?_ 1 _ rfl; (with_reducible repeat (first | refine blk_drewN ?_ _ | refine blk_drew ?_ | refine blk_alloc ?_ _)); refine blk_put (cs := #[.bool false, .string (⟨#[]⟩ : ByteArray), .slice none 0 0, .int .i64 0]) ?_ 0 _ rfl; (with_reducible repeat (first | refine blk_drewN ?_ _ | refine blk_drew ?_ | refine blk_alloc ?_ _)); exact BK416.out) hb); have n2_ := Aside0.mk (below_step (by repeat (first | (with_reducible first | exact HB.out | apply below_alloc | apply pw_below_drewN | apply below_drew1 | refine below_set ?_ GE410.out | refine below_set ?_ GE416.out) | exact HB.out)) hb); clear BK410; clear BK416; clear HB; have BK410 := n0_; have BK416 := n1_; have HB := n2_; clear n0_ n1_ n2_; (try clear hb); (try clear hb2); (try clear hk); (try clear hi)))
                  go_roundg k3
                  case measure => have := HK1.out; have := HK2.out; have := HK3.out; omega
                  case rel => exact ⟨(t417), (wrap64 (x28_3 + 1)), (by first | rfl | (simp; done) | (simp [*]; done)), (by first | rfl | (simp; done) | (simp [*]; done)), H', ⟨by have := HK1.out; have := HK2.out; have := HK3.out; omega⟩, ⟨by (with_reducible repeat (first | refine blk_drewN ?_ _ | refine blk_drew ?_ | refine blk_alloc ?_ _)); exact BK410.out⟩, ⟨by repeat (first | (with_reducible first | exact HB.out | apply below_alloc | apply pw_below_drewN | apply below_drew1 | refine below_set ?_ GE410.out | refine below_set ?_ GE416.out) | exact HB.out)⟩⟩
                 ·rw [if_neg c19] at H
                  have c19b0 : decide (x6_2 ≤ (((rd_T42 y411 x28_3).f1).size : Int)) = false := decide_eq_false c19
                  clear c19
                  have H' := Aside0.mk H
                  clear H
                  have p415 : 0 ≤ (x28_3 : Int) := of_decide_eq_true (by first | (with_reducible assumption) | assumption)
                  have q415 : x28_3 < (y411.length : Int) := of_decide_eq_true (by first | (with_reducible assumption) | assumption)
                  obtain ⟨ad415, A415_2, c415_2, e415, hx415_0, hx415_1, hx415_2, hx415_3, hl415_2, hi415_2⟩ := at_T42 HR414.out x28_3 p415 q415
                  obtain rfl : ad409 = ad415 := (by injection e415)
                  replace hx415_0 := (HB.out.cell (World.block_lt_of_cell? w _ hx415_0)).trans hx415_0
                  replace hx415_1 := (HB.out.cell (World.block_lt_of_cell? w _ hx415_1)).trans hx415_1
                  replace hx415_2 := (HB.out.cell (World.block_lt_of_cell? w _ hx415_2)).trans hx415_2
                  replace hx415_3 := (HB.out.cell (World.block_lt_of_cell? w _ hx415_3)).trans hx415_3
                  have HR415_2 := Aside0.mk hi415_2
                  have HC415_2 := Aside0.mk hl415_2
                  clear hi415_2 hl415_2
                  replace p415 := eq_true p415
                  replace q415 := eq_true q415
                  go_wp2_with (first | ((with_reducible refine gate_dst (N := 9) rfl ?_); (try (refine gate_guard (by rfl) ?_; dsimp only)); refine box_event ?hg (N := 9) ?hd (cs := #[.bool false, .string (⟨#[]⟩ : ByteArray), .slice none 0 0, .int .i64 0]) (t := 42) ?hr ?_; (case hd => rfl); (case hg => rfl); (case hr => first | (go_simp; done) | (go_simp; rfl)); intro gb416 hg w26 hbox hb; have n0_ := Aside0.mk (blk_below (g := gb410) (o := .cells #[.bool ((rd_T42 l0 x12_1).f0), .string ((rd_T42 l0 x12_1).f1), .slice A409_2 ((rd_T42 l0 x12_1).f2).length c409_2, .int .i64 ((rd_T42 l0 x12_1).f3)] 42 (0, 0)) (by (with_reducible repeat (first | refine blk_drewN ?_ _ | refine blk_drew ?_ | refine blk_alloc ?_ _)); exact BK410.out) hb); have n1_ := Aside0.mk (below_step (by repeat (first | (with_reducible first | exact HB.out | apply below_alloc | apply pw_below_drewN | apply below_drew1 | refine below_set ?_ GE410.out) | exact HB.out)) hb); have n2_ := Aside0.mk (hbox); have n3_ := Aside0.mk ((by rw [hg]; exact (below_size (by repeat (first | (with_reducible first | exact HB.out | apply below_alloc | apply pw_below_drewN | apply below_drew1 | refine below_set ?_ GE410.out) | exact HB.out))) : w.heap.size ≤ gb416)); have n4_ := Aside0.mk ((by rw [hg]; exact (below_size (by repeat (first | (with_reducible first | exact HB.out | apply below_alloc | apply pw_below_drewN | apply below_drew1 | refine below_set ?_ GE410.out) | exact HB.out))) : w.heap.size ≤ gb416)); have n5_ := Aside0.mk ((by rw [hg]; exact Nat.ne_of_lt (blk_lt (g := gb410) (o := .cells #[.bool ((rd_T42 l0 x12_1).f0), .string ((rd_T42 l0 x12_1).f1), .slice A409_2 ((rd_T42 l0 x12_1).f2).length c409_2, .int .i64 ((rd_T42 l0 x12_1).f3)] 42 (0, 0)) (by (with_reducible repeat (first | refine blk_drewN ?_ _ | refine blk_drew ?_ | refine blk_alloc ?_ _)); exact BK410.out)) : gb410 ≠ gb416)); have n6_ := Aside0.mk ((by rw [hg]; exact Nat.ne_of_gt (blk_lt (g := gb410) (o := .cells #[.bool ((rd_T42 l0 x12_1).f0), .string ((rd_T42 l0 x12_1).f1), .slice A409_2 ((rd_T42 l0 x12_1).f2).length c409_2, .int .i64 ((rd_T42 l0 x12_1).f3)] 42 (0, 0)) (by (with_reducible repeat (first | refine blk_drewN ?_ _ | refine blk_drew ?_ | refine blk_alloc ?_ _)); exact BK410.out)) : gb416 ≠ gb410)); clear BK410; clear HB; have BK410 := n0_; have HB := n1_; have BK416 := n2_; have GW416 := n3_; have GE416 := n4_; have NB410_416 := n5_; have NB416_410 := n6_; clear n0_ n1_ n2_ n3_ n4_ n5_ n6_; clear hb hbox hg; have hnb27 := NB416_410.out; have hnc27 := NB410_416.out; have hcz28_0 : w26.cell? ⟨gb416, 0, none⟩ = some (.bool false) := (blk_cell BK416.out 0).trans rfl; have hcz28_1 : w26.cell? ⟨gb416, 1, none⟩ = some (.string (⟨#[]⟩ : ByteArray)) := (blk_cell BK416.out 1).trans rfl; have hcz28_2 : w26.cell? ⟨gb416, 2, none⟩ = some (.slice none 0 0) := (blk_cell BK416.out 2).trans rfl; have hcz28_3 : w26.cell? ⟨gb416, 3, none⟩ = some (.int .i64 0) := (blk_cell BK416.out 3).trans rfl; have hfz28_0 := blk_frozen BK416.out 0; have hfz28_1 := blk_frozen BK416.out 1; have hfz28_2 := blk_frozen BK416.out 2; have hfz28_3 := blk_frozen BK416.out 3))
                  go_roundg k3
                  case measure => have := HK1.out; have := HK2.out; have := HK3.out; omega
                  case rel => exact ⟨(false), (wrap64 (x28_3 + 1)), (by first | rfl | (simp; done) | (simp [*]; done)), (by first | rfl | (simp; done) | (simp [*]; done)), H', ⟨by have := HK1.out; have := HK2.out; have := HK3.out; omega⟩, ⟨by (with_reducible repeat (first | refine blk_drewN ?_ _ | refine blk_drew ?_ | refine blk_alloc ?_ _)); refine blk_far ?_ NB410_416.out _; (with_reducible repeat (first | refine blk_drewN ?_ _ | refine blk_drew ?_ | refine blk_alloc ?_ _)); refine blk_far ?_ NB410_416.out _; (with_reducible repeat (first | refine blk_drewN ?_ _ | refine blk_drew ?_ | refine blk_alloc ?_ _)); refine blk_far ?_ NB410_416.out _; (with_reducible repeat (first | refine blk_drewN ?_ _ | refine blk_drew ?_ | refine blk_alloc ?_ _)); refine blk_far ?_ NB410_416.out _; (with_reducible repeat (first | refine blk_drewN ?_ _ | refine blk_drew ?_ | refine blk_alloc ?_ _)); exact BK410.out⟩, ⟨by repeat (first | (with_reducible first | exact HB.out | apply below_alloc | apply pw_below_drewN | apply below_drew1 | refine below_set ?_ GE410.out | refine below_set ?_ GE416.out) | exact HB.out)⟩⟩
               ·rw [if_neg c14] at H
                exact absurd H (by simp)
              ·rw [if_neg c13] at H
               exact absurd H (by simp)
             ·rw [if_neg c12] at H
              have c12b0 : decide (x28_3 < (y411.length : Int)) = false := decide_eq_false c12
              clear c12
              by_cases c29 : x7_3 = true
              ·subst c29
               have H1 : (spec_Ways.l1 k3 l0 x3_2 x12_1 (wrap64 (x6_2 + 1)) l0 (l0.length : Int) x12_1 ((rd_T42 l0 x12_1).f0) ((rd_T42 l0 x12_1).f1) ((rd_T42 l0 x12_1).f2) ((rd_T42 l0 x12_1).f3)) = some r := by rw [if_pos rfl] at H; exact H
               clear H
               have H := H1
               clear H1
               have H' := Aside0.mk H
               clear H
               go_wp2
               go_roundg k3
               case measure => have := HK1.out; have := HK2.out; have := HK3.out; omega
               case rel => exact ⟨(x3_2), (wrap64 (x6_2 + 1)), (by first | rfl | (simp; done) | (simp [*]; done)), (by first | rfl | (simp; done) | (simp [*]; done)), H', ⟨by have := HK1.out; have := HK2.out; have := HK3.out; omega⟩, ⟨by (with_reducible repeat (first | refine blk_drewN ?_ _ | refine blk_drew ?_ | refine blk_alloc ?_ _)); exact BK410.out⟩, ⟨by repeat (first | (with_reducible first | exact HB.out | apply below_alloc | apply pw_below_drewN | apply below_drew1 | refine below_set ?_ GE410.out) | exact HB.out)⟩⟩
              ·replace c29 := Bool.eq_false_iff.mpr c29
               subst c29
               have H1 : (spec_Ways.l1 k3 l0 (wrap64 (x3_2 + 1)) x12_1 (wrap64 (x6_2 + 1)) l0 (l0.length : Int) x12_1 ((rd_T42 l0 x12_1).f0) ((rd_T42 l0 x12_1).f1) ((rd_T42 l0 x12_1).f2) ((rd_T42 l0 x12_1).f3)) = some r := by rw [if_neg (show ¬ (false = true) by decide)] at H; exact H
               clear H
               have H := H1
               clear H1
               have H' := Aside0.mk H
               clear H
               go_wp2
               go_roundg k3
               case measure => have := HK1.out; have := HK2.out; have := HK3.out; omega
               case rel => exact ⟨(wrap64 (x3_2 + 1)), (wrap64 (x6_2 + 1)), (by first | rfl | (simp; done) | (simp [*]; done)), (by first | rfl | (simp; done) | (simp [*]; done)), H', ⟨by have := HK1.out; have := HK2.out; have := HK3.out; omega⟩, ⟨by (with_reducible repeat (first | refine blk_drewN ?_ _ | refine blk_drew ?_ | refine blk_alloc ?_ _)); exact BK410.out⟩, ⟨by repeat (first | (with_reducible first | exact HB.out | apply below_alloc | apply pw_below_drewN | apply below_drew1 | refine below_set ?_ GE410.out) | exact HB.out)⟩⟩
          ·rw [if_neg c9] at H
           exact absurd H (by simp)
         ·rw [if_neg c8] at H
          exact absurd H (by simp)
        ·rw [if_neg c7] at H
         have c7b0 : decide (x6_2 ≤ (((rd_T42 l0 x12_1).f1).size : Int)) = false := decide_eq_false c7
         clear c7
         have H' := Aside0.mk H
         clear H
         have hcz30_0 : wr.cell? ⟨gb410, 0, none⟩ = some (.bool ((rd_T42 l0 x12_1).f0)) := (blk_cell BK410.out 0).trans rfl
         have hcz30_1 : wr.cell? ⟨gb410, 1, none⟩ = some (.string ((rd_T42 l0 x12_1).f1)) := (blk_cell BK410.out 1).trans rfl
         have hcz30_2 : wr.cell? ⟨gb410, 2, none⟩ = some (.slice A409_2 ((rd_T42 l0 x12_1).f2).length c409_2) := (blk_cell BK410.out 2).trans rfl
         have hcz30_3 : wr.cell? ⟨gb410, 3, none⟩ = some (.int .i64 ((rd_T42 l0 x12_1).f3)) := (blk_cell BK410.out 3).trans rfl
         have hfz30_0 := blk_frozen BK410.out 0
         have hfz30_1 := blk_frozen BK410.out 1
         have hfz30_2 := blk_frozen BK410.out 2
         have hfz30_3 := blk_frozen BK410.out 3
         go_wp2
         go_roundg k2
         case measure => have := HK1.out; have := HK2.out; omega
         case rel => exact ⟨(x3_2), (wrap64 (x12_1 + 1)), (by first | rfl | (simp; done) | (simp [*]; done)), (by first | rfl | (simp; done) | (simp [*]; done)), H', ⟨by have := HK1.out; have := HK2.out; omega⟩, ⟨by repeat (first | (with_reducible first | exact HB.out | apply below_alloc | apply pw_below_drewN | apply below_drew1 | refine below_set ?_ GE410.out) | exact HB.out)⟩⟩
     ·rw [if_neg c4] at H
      exact absurd H (by simp)
    ·rw [if_neg c3] at H
     exact absurd H (by simp)
   ·rw [if_neg c2] at H
    have c2b0 : decide (x12_1 < (l0.length : Int)) = false := decide_eq_false c2
    clear c2
    obtain rfl := Option.some.inj H
    go_wp2
    go_ret
    exact ⟨by first | rfl | (simp [errW_none, errW_some] <;> rfl) | (simp [*, errW_none, errW_some] <;> rfl), by repeat (first | (with_reducible first | exact HB.out | apply below_alloc | apply pw_below_drewN | apply below_drew1) | exact HB.out)⟩
end Go.Proofs.YtnoolgbbpekomaaGreatDoor.T
