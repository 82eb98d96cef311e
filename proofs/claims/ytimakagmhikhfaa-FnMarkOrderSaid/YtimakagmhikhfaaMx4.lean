-- made by stubprint.py
import Derived.Test.YtimakagmhikhfaaMx0
import Derived.Test.YtimakagmhikhfaaMx1
import Derived.Test.YtimakagmhikhfaaMx3
namespace Go.Proofs.Ytimakagmhikhfaa.M
open Go.RowKit Go.Proofs.YtimakagmhikhfaaW.PrintWords Go.Proofs.YtimakagmhikhfaaW.PrintLast Go.Proofs.YtimakagmhikhfaaW.PrintMore
attribute [local go_sem] max2_int min2_int max_two min_two max_three min_three max_four min_four   -- for this text's walks alone
set_option linter.unusedVariables false
set_option linter.unusedSimpArgs false

/-! ### laws_FnMarkOrder: function 5 -/
mutual
def laws_FnMarkOrder.j0 : Nat → List Int → List Int → Bool → Option (Bool)
  | 0, _, _, _ => none
  | k + 1, x0, x1, x27 => if x27 = true then (some true) else (laws_FnMarkOrder.l0 k x0 x1 (([] : List Int)) 0 x0 (x0.length : Int) 0)
def laws_FnMarkOrder.l0 : Nat → List Int → List Int → List Int → Int → List Int → Int → Int → Option (Bool)
  | 0, _, _, _, _, _, _, _ => none
  | k + 1, x0, x1, x5, x6, x29, x30, x31 => if x31 < x30 then (if 0 ≤ x31 then (if x31 < (x29.length : Int) then (if (rd x29 x31) < 0 then ((laws_marksWork.f).bind fun t203 => (some t203)) else (if (rd x29 x31) > 1048576 then ((laws_marksWork.f).bind fun t204 => (some t204)) else (if (x0.length : Int) > 300 then ((laws_marksWork.f).bind fun t205 => (some t205)) else (if (x1.length : Int) < (x0.length : Int) then ((laws_marksWork.f).bind fun t206 => (some t206)) else (if x5.length < 17592186044416 then (laws_FnMarkOrder.l0 k x0 x1 (x5 ++ [wrap64 (x6 + (wrap64 (1 + (rd x29 x31))))]) (wrap64 (x6 + (wrap64 (1 + (rd x29 x31))))) x29 x30 (wrap64 (x31 + 1))) else (none)))))) else (none)) else (none)) else (laws_FnMarkOrder.l1 k x1 x5 (([] : List (S31))) x5 (x5.length : Int) 0)
def laws_FnMarkOrder.l1 : Nat → List Int → List Int → List (S31) → List Int → Int → Int → Option (Bool)
  | 0, _, _, _, _, _, _ => none
  | k + 1, x1, x5, x9, x64, x65, x66 => if x66 < x65 then (if 0 ≤ x66 then (if x66 < (x64.length : Int) then (if x9.length < 3518437208883 then (laws_FnMarkOrder.l1 k x1 x5 (x9 ++ [(⟨0, rd x64 x66, ([] : List Int)⟩ : S31)]) x64 x65 (wrap64 (x66 + 1))) else (none)) else (none)) else (none)) else ((some (([] : List Int) : List Int)).bind fun y217 => (if y217.length + x5.length < 17592186044416 then (laws_FnMarkOrder.l2 k x1 x5 x9 (y217 ++ x5) (x5.length : Int) 0) else (none)))
def laws_FnMarkOrder.l2 : Nat → List Int → List Int → List (S31) → List Int → Int → Int → Option (Bool)
  | 0, _, _, _, _, _, _ => none
  | k + 1, x1, x5, x9, x12, x80, x81 => if x81 < x80 then (if 0 ≤ x81 then (if x81 < (x1.length : Int) then (if (rd x1 x81) < 0 then ((laws_marksWork.f).bind fun t224 => (some t224)) else (if (x12.length : Int) = 0 then (none) else (if 0 ≤ (Int.tmod (rd x1 x81) (x12.length : Int)) then (if (Int.tmod (rd x1 x81) (x12.length : Int)) < (x12.length : Int) then (if x9.length < 3518437208883 then ((some (([] : List Int) : List Int)).bind fun y230 => (if (Int.tmod (rd x1 x81) (x12.length : Int)) ≤ (x12.length : Int) then ((some (x12.take ((Int.tmod (rd x1 x81) (x12.length : Int)) : Int).toNat : List Int)).bind fun y233 => (if y230.length + y233.length < 17592186044416 then ((some (y230 ++ y233 : List Int)).bind fun y237 => (if 0 ≤ (wrap64 ((Int.tmod (rd x1 x81) (x12.length : Int)) + 1)) then (if (wrap64 ((Int.tmod (rd x1 x81) (x12.length : Int)) + 1)) ≤ (x12.length : Int) then ((some (x12.drop ((wrap64 ((Int.tmod (rd x1 x81) (x12.length : Int)) + 1)) : Int).toNat : List Int)).bind fun y240 => (if y237.length + y240.length < 17592186044416 then (laws_FnMarkOrder.l2 k x1 x5 (x9 ++ [(⟨2, rd x12 (Int.tmod (rd x1 x81) (x12.length : Int)), ([] : List Int)⟩ : S31)]) (y237 ++ y240) x80 (wrap64 (x81 + 1))) else (none))) else (none)) else (none))) else (none))) else (none))) else (none)) else (none)) else (none)))) else (none)) else (none)) else ((impl_RunMarks.f x9).bind fun t247 => (if (t247.length : Int) = (x9.length : Int) then (laws_FnMarkOrder.l3 k x5 x9 t247 (([] : List Int)) (t247.length : Int) 0) else (some false)))
def laws_FnMarkOrder.l3 : Nat → List Int → List (S31) → List (S34) → List Int → Int → Int → Option (Bool)
  | 0, _, _, _, _, _, _ => none
  | k + 1, x5, x9, x15, x16, x125, x126 => if x126 < x125 then (if 0 ≤ x126 then (if x126 < (x9.length : Int) then (if ((rd_T31 x9 x126).f0) = 2 then (if x16.length < 17592186044416 then (laws_FnMarkOrder.j5 k x5 x9 x15 (x16 ++ [(rd_T31 x9 x126).f1]) x126 x125 x126) else (none)) else (laws_FnMarkOrder.j5 k x5 x9 x15 x16 x126 x125 x126)) else (none)) else (none)) else ((laws_marksWork.f).bind fun t253 => (some t253))
def laws_FnMarkOrder.j5 : Nat → List Int → List (S31) → List (S34) → List Int → Int → Int → Int → Option (Bool)
  | 0, _, _, _, _, _, _, _ => none
  | k + 1, x5, x9, x15, x16, x17, x125, x126 => laws_FnMarkOrder.l4 k x5 x9 x15 x16 x17 0 0 x125 x126
def laws_FnMarkOrder.l4 : Nat → List Int → List (S31) → List (S34) → List Int → Int → Int → Int → Int → Int → Option (Bool)
  | 0, _, _, _, _, _, _, _, _, _ => none
  | k + 1, x5, x9, x15, x16, x17, x18, x19, x125, x126 => if x19 < (x5.length : Int) then (if 0 ≤ x19 then ((spec_Has.f k x16 (rd x5 x19)).bind fun t260 => (if t260 = true then (laws_FnMarkOrder.l4 k x5 x9 x15 x16 x17 (rd x5 x19) (wrap64 (x19 + 1)) x125 x126) else (if 0 ≤ x17 then (if x17 < (x15.length : Int) then (if ((rd_T34 x15 x17).f0) = x18 then (laws_FnMarkOrder.l3 k x5 x9 x15 x16 x125 (wrap64 (x126 + 1))) else (some false)) else (none)) else (none)))) else (none)) else (if 0 ≤ x17 then (if x17 < (x15.length : Int) then (if ((rd_T34 x15 x17).f0) = x18 then (laws_FnMarkOrder.l3 k x5 x9 x15 x16 x125 (wrap64 (x126 + 1))) else (some false)) else (none)) else (none))
end
def laws_FnMarkOrder.f (k : Nat) (l0 : List Int) (l1 : List Int) : Option (Bool) := if (l0.length : Int) > 2147483647 then (laws_FnMarkOrder.j0 k l0 l1 true) else (laws_FnMarkOrder.j0 k l0 l1 (decide ((l1.length : Int) > 2147483647)))
theorem laws_FnMarkOrder.mono_l : ∀ k, (∀ y0 y1 y2, LeO (laws_FnMarkOrder.j0 k y0 y1 y2) (laws_FnMarkOrder.j0 (k + 1) y0 y1 y2)) ∧ (∀ y0 y1 y2 y3 y4 y5 y6, LeO (laws_FnMarkOrder.l0 k y0 y1 y2 y3 y4 y5 y6) (laws_FnMarkOrder.l0 (k + 1) y0 y1 y2 y3 y4 y5 y6)) ∧ (∀ y0 y1 y2 y3 y4 y5, LeO (laws_FnMarkOrder.l1 k y0 y1 y2 y3 y4 y5) (laws_FnMarkOrder.l1 (k + 1) y0 y1 y2 y3 y4 y5)) ∧ (∀ y0 y1 y2 y3 y4 y5, LeO (laws_FnMarkOrder.l2 k y0 y1 y2 y3 y4 y5) (laws_FnMarkOrder.l2 (k + 1) y0 y1 y2 y3 y4 y5)) ∧ (∀ y0 y1 y2 y3 y4 y5, LeO (laws_FnMarkOrder.l3 k y0 y1 y2 y3 y4 y5) (laws_FnMarkOrder.l3 (k + 1) y0 y1 y2 y3 y4 y5)) ∧ (∀ y0 y1 y2 y3 y4 y5 y6, LeO (laws_FnMarkOrder.j5 k y0 y1 y2 y3 y4 y5 y6) (laws_FnMarkOrder.j5 (k + 1) y0 y1 y2 y3 y4 y5 y6)) ∧ (∀ y0 y1 y2 y3 y4 y5 y6 y7 y8, LeO (laws_FnMarkOrder.l4 k y0 y1 y2 y3 y4 y5 y6 y7 y8) (laws_FnMarkOrder.l4 (k + 1) y0 y1 y2 y3 y4 y5 y6 y7 y8))
  | 0 => ⟨fun _ _ _ r h => by simp [laws_FnMarkOrder.j0] at h, fun _ _ _ _ _ _ _ r h => by simp [laws_FnMarkOrder.l0] at h, fun _ _ _ _ _ _ r h => by simp [laws_FnMarkOrder.l1] at h, fun _ _ _ _ _ _ r h => by simp [laws_FnMarkOrder.l2] at h, fun _ _ _ _ _ _ r h => by simp [laws_FnMarkOrder.l3] at h, fun _ _ _ _ _ _ _ r h => by simp [laws_FnMarkOrder.j5] at h, fun _ _ _ _ _ _ _ _ _ r h => by simp [laws_FnMarkOrder.l4] at h⟩
  | k + 1 => by
    obtain ⟨ih0, ih1, ih2, ih3, ih4, ih5, ih6⟩ := laws_FnMarkOrder.mono_l k
    refine ⟨?_, ?_, ?_, ?_, ?_, ?_, ?_⟩
    · intro y0 y1 y2
      unfold laws_FnMarkOrder.j0
      repeat' first
      | (with_reducible exact ih0 _ _ _)
      | (with_reducible exact ih1 _ _ _ _ _ _ _)
      | (with_reducible exact ih2 _ _ _ _ _ _)
      | (with_reducible exact ih3 _ _ _ _ _ _)
      | (with_reducible exact ih4 _ _ _ _ _ _)
      | (with_reducible exact ih5 _ _ _ _ _ _ _)
      | (with_reducible exact ih6 _ _ _ _ _ _ _ _ _)
      | (with_reducible exact spec_Has.mono _ _ _)
      | (with_reducible exact LeO.refl _)
      | (with_reducible exact LeO.none _)
      | (with_reducible refine LeO.ite ?_ ?_)
      | (with_reducible refine LeO.bind ?_ (fun _ => ?_))
      | exact ih0 _ _ _
      | exact ih1 _ _ _ _ _ _ _
      | exact ih2 _ _ _ _ _ _
      | exact ih3 _ _ _ _ _ _
      | exact ih4 _ _ _ _ _ _
      | exact ih5 _ _ _ _ _ _ _
      | exact ih6 _ _ _ _ _ _ _ _ _
      | exact spec_Has.mono _ _ _
      | exact LeO.none _
      | refine LeO.ite ?_ ?_
      | refine LeO.bind ?_ (fun _ => ?_)
    · intro y0 y1 y2 y3 y4 y5 y6
      unfold laws_FnMarkOrder.l0
      repeat' first
      | (with_reducible exact ih0 _ _ _)
      | (with_reducible exact ih1 _ _ _ _ _ _ _)
      | (with_reducible exact ih2 _ _ _ _ _ _)
      | (with_reducible exact ih3 _ _ _ _ _ _)
      | (with_reducible exact ih4 _ _ _ _ _ _)
      | (with_reducible exact ih5 _ _ _ _ _ _ _)
      | (with_reducible exact ih6 _ _ _ _ _ _ _ _ _)
      | (with_reducible exact spec_Has.mono _ _ _)
      | (with_reducible exact LeO.refl _)
      | (with_reducible exact LeO.none _)
      | (with_reducible refine LeO.ite ?_ ?_)
      | (with_reducible refine LeO.bind ?_ (fun _ => ?_))
      | exact ih0 _ _ _
      | exact ih1 _ _ _ _ _ _ _
      | exact ih2 _ _ _ _ _ _
      | exact ih3 _ _ _ _ _ _
      | exact ih4 _ _ _ _ _ _
      | exact ih5 _ _ _ _ _ _ _
      | exact ih6 _ _ _ _ _ _ _ _ _
      | exact spec_Has.mono _ _ _
      | exact LeO.none _
      | refine LeO.ite ?_ ?_
      | refine LeO.bind ?_ (fun _ => ?_)
    · intro y0 y1 y2 y3 y4 y5
      unfold laws_FnMarkOrder.l1
      repeat' first
      | (with_reducible exact ih0 _ _ _)
      | (with_reducible exact ih1 _ _ _ _ _ _ _)
      | (with_reducible exact ih2 _ _ _ _ _ _)
      | (with_reducible exact ih3 _ _ _ _ _ _)
      | (with_reducible exact ih4 _ _ _ _ _ _)
      | (with_reducible exact ih5 _ _ _ _ _ _ _)
      | (with_reducible exact ih6 _ _ _ _ _ _ _ _ _)
      | (with_reducible exact spec_Has.mono _ _ _)
      | (with_reducible exact LeO.refl _)
      | (with_reducible exact LeO.none _)
      | (with_reducible refine LeO.ite ?_ ?_)
      | (with_reducible refine LeO.bind ?_ (fun _ => ?_))
      | exact ih0 _ _ _
      | exact ih1 _ _ _ _ _ _ _
      | exact ih2 _ _ _ _ _ _
      | exact ih3 _ _ _ _ _ _
      | exact ih4 _ _ _ _ _ _
      | exact ih5 _ _ _ _ _ _ _
      | exact ih6 _ _ _ _ _ _ _ _ _
      | exact spec_Has.mono _ _ _
      | exact LeO.none _
      | refine LeO.ite ?_ ?_
      | refine LeO.bind ?_ (fun _ => ?_)
    · intro y0 y1 y2 y3 y4 y5
      unfold laws_FnMarkOrder.l2
      repeat' first
      | (with_reducible exact ih0 _ _ _)
      | (with_reducible exact ih1 _ _ _ _ _ _ _)
      | (with_reducible exact ih2 _ _ _ _ _ _)
      | (with_reducible exact ih3 _ _ _ _ _ _)
      | (with_reducible exact ih4 _ _ _ _ _ _)
      | (with_reducible exact ih5 _ _ _ _ _ _ _)
      | (with_reducible exact ih6 _ _ _ _ _ _ _ _ _)
      | (with_reducible exact spec_Has.mono _ _ _)
      | (with_reducible exact LeO.refl _)
      | (with_reducible exact LeO.none _)
      | (with_reducible refine LeO.ite ?_ ?_)
      | (with_reducible refine LeO.bind ?_ (fun _ => ?_))
      | exact ih0 _ _ _
      | exact ih1 _ _ _ _ _ _ _
      | exact ih2 _ _ _ _ _ _
      | exact ih3 _ _ _ _ _ _
      | exact ih4 _ _ _ _ _ _
      | exact ih5 _ _ _ _ _ _ _
      | exact ih6 _ _ _ _ _ _ _ _ _
      | exact spec_Has.mono _ _ _
      | exact LeO.none _
      | refine LeO.ite ?_ ?_
      | refine LeO.bind ?_ (fun _ => ?_)
    · intro y0 y1 y2 y3 y4 y5
      unfold laws_FnMarkOrder.l3
      repeat' first
      | (with_reducible exact ih0 _ _ _)
      | (with_reducible exact ih1 _ _ _ _ _ _ _)
      | (with_reducible exact ih2 _ _ _ _ _ _)
      | (with_reducible exact ih3 _ _ _ _ _ _)
      | (with_reducible exact ih4 _ _ _ _ _ _)
      | (with_reducible exact ih5 _ _ _ _ _ _ _)
      | (with_reducible exact ih6 _ _ _ _ _ _ _ _ _)
      | (with_reducible exact spec_Has.mono _ _ _)
      | (with_reducible exact LeO.refl _)
      | (with_reducible exact LeO.none _)
      | (with_reducible refine LeO.ite ?_ ?_)
      | (with_reducible refine LeO.bind ?_ (fun _ => ?_))
      | exact ih0 _ _ _
      | exact ih1 _ _ _ _ _ _ _
      | exact ih2 _ _ _ _ _ _
      | exact ih3 _ _ _ _ _ _
      | exact ih4 _ _ _ _ _ _
      | exact ih5 _ _ _ _ _ _ _
      | exact ih6 _ _ _ _ _ _ _ _ _
      | exact spec_Has.mono _ _ _
      | exact LeO.none _
      | refine LeO.ite ?_ ?_
      | refine LeO.bind ?_ (fun _ => ?_)
    · intro y0 y1 y2 y3 y4 y5 y6
      unfold laws_FnMarkOrder.j5
      repeat' first
      | (with_reducible exact ih0 _ _ _)
      | (with_reducible exact ih1 _ _ _ _ _ _ _)
      | (with_reducible exact ih2 _ _ _ _ _ _)
      | (with_reducible exact ih3 _ _ _ _ _ _)
      | (with_reducible exact ih4 _ _ _ _ _ _)
      | (with_reducible exact ih5 _ _ _ _ _ _ _)
      | (with_reducible exact ih6 _ _ _ _ _ _ _ _ _)
      | (with_reducible exact spec_Has.mono _ _ _)
      | (with_reducible exact LeO.refl _)
      | (with_reducible exact LeO.none _)
      | (with_reducible refine LeO.ite ?_ ?_)
      | (with_reducible refine LeO.bind ?_ (fun _ => ?_))
      | exact ih0 _ _ _
      | exact ih1 _ _ _ _ _ _ _
      | exact ih2 _ _ _ _ _ _
      | exact ih3 _ _ _ _ _ _
      | exact ih4 _ _ _ _ _ _
      | exact ih5 _ _ _ _ _ _ _
      | exact ih6 _ _ _ _ _ _ _ _ _
      | exact spec_Has.mono _ _ _
      | exact LeO.none _
      | refine LeO.ite ?_ ?_
      | refine LeO.bind ?_ (fun _ => ?_)
    · intro y0 y1 y2 y3 y4 y5 y6 y7 y8
      unfold laws_FnMarkOrder.l4
      repeat' first
      | (with_reducible exact ih0 _ _ _)
      | (with_reducible exact ih1 _ _ _ _ _ _ _)
      | (with_reducible exact ih2 _ _ _ _ _ _)
      | (with_reducible exact ih3 _ _ _ _ _ _)
      | (with_reducible exact ih4 _ _ _ _ _ _)
      | (with_reducible exact ih5 _ _ _ _ _ _ _)
      | (with_reducible exact ih6 _ _ _ _ _ _ _ _ _)
      | (with_reducible exact spec_Has.mono _ _ _)
      | (with_reducible exact LeO.refl _)
      | (with_reducible exact LeO.none _)
      | (with_reducible refine LeO.ite ?_ ?_)
      | (with_reducible refine LeO.bind ?_ (fun _ => ?_))
      | exact ih0 _ _ _
      | exact ih1 _ _ _ _ _ _ _
      | exact ih2 _ _ _ _ _ _
      | exact ih3 _ _ _ _ _ _
      | exact ih4 _ _ _ _ _ _
      | exact ih5 _ _ _ _ _ _ _
      | exact ih6 _ _ _ _ _ _ _ _ _
      | exact spec_Has.mono _ _ _
      | exact LeO.none _
      | refine LeO.ite ?_ ?_
      | refine LeO.bind ?_ (fun _ => ?_)
theorem laws_FnMarkOrder.mono : ∀ a0 a1 k, LeO (laws_FnMarkOrder.f k a0 a1) (laws_FnMarkOrder.f (k + 1) a0 a1) := by
  intro a0 a1 k
  obtain ⟨ih0, ih1, ih2, ih3, ih4, ih5, ih6⟩ := laws_FnMarkOrder.mono_l k
  unfold laws_FnMarkOrder.f
  repeat' first
      | (with_reducible exact ih0 _ _ _)
      | (with_reducible exact ih1 _ _ _ _ _ _ _)
      | (with_reducible exact ih2 _ _ _ _ _ _)
      | (with_reducible exact ih3 _ _ _ _ _ _)
      | (with_reducible exact ih4 _ _ _ _ _ _)
      | (with_reducible exact ih5 _ _ _ _ _ _ _)
      | (with_reducible exact ih6 _ _ _ _ _ _ _ _ _)
      | (with_reducible exact spec_Has.mono _ _ _)
      | (with_reducible exact LeO.refl _)
      | (with_reducible exact LeO.none _)
      | (with_reducible refine LeO.ite ?_ ?_)
      | (with_reducible refine LeO.bind ?_ (fun _ => ?_))
      | exact ih0 _ _ _
      | exact ih1 _ _ _ _ _ _ _
      | exact ih2 _ _ _ _ _ _
      | exact ih3 _ _ _ _ _ _
      | exact ih4 _ _ _ _ _ _
      | exact ih5 _ _ _ _ _ _ _
      | exact ih6 _ _ _ _ _ _ _ _ _
      | exact spec_Has.mono _ _ _
      | exact LeO.none _
      | refine LeO.ite ?_ ?_
      | refine LeO.bind ?_ (fun _ => ?_)
def laws_FnMarkOrder.T26 : Bool × List (List Nat × List Nat) := (true, [([], []), ([], []), ([], []), ([1, 2], [1, 2]), ([0, 3], [0, 3]), ([], []), ([], []), ([6], [6]), ([5, 7], [5, 7]), ([4, 8, 4], [4, 8]), ([9, 9, 0, 1, 2, 3, 4, 5, 6, 7, 8, 9], [1, 5, 9])])
def laws_FnMarkOrder.B26 : List Nat := [0, 0, 0, 6, 15, 0, 0, 64, 224, 511, 1023]
theorem laws_FnMarkOrder.tab26 : rtab .any (opsOf Try.f5 26) = laws_FnMarkOrder.T26 := by kernel_rfl
theorem laws_FnMarkOrder.bits26 : waitsOk laws_FnMarkOrder.T26.2 laws_FnMarkOrder.B26 = true := by kernel_rfl
set_option maxHeartbeats 8000000 in
set_option maxRecDepth 100000 in
theorem laws_FnMarkOrder.calls (k : Nat) (A0 : Option Addr) (c0 : Nat) (l0 : List Int) (A1 : Option Addr) (c1 : Nat) (l1 : List Int) (r : Bool) (w : World) (hr0 : Kd.C (Kd.int .i64) w A0 l0.length l0) (hc0 : l0.length ≤ c0) (hr1 : Kd.C (Kd.int .i64) w A1 l1.length l1) (hc1 : l1.length ≤ c1) (h : laws_FnMarkOrder.f k l0 l1 = some r) :
    Calls Try.prog 5 #[.slice A0 l0.length c0, .slice A1 l1.length c1] w fun e w' => e = .returned (.bool r) ∧ Below w.heap.size w w' := by
  have hu31 := Try.underlying31
  have HR0 := Aside0.mk hr0
  have HC0 := Aside0.mk hc0
  clear hr0 hc0
  have HR1 := Aside0.mk hr1
  have HC1 := Aside0.mk hc1
  clear hr1 hc1
  have HB := Aside0.mk (Below.refl w.heap.size w)
  have H : (if (l0.length : Int) > 2147483647 then (laws_FnMarkOrder.j0 k l0 l1 true) else (laws_FnMarkOrder.j0 k l0 l1 (decide ((l1.length : Int) > 2147483647)))) = some r := h
  clear h
  have HC3 := Aside0.mk H
  clear H
  go_enter Try.func5, Try.ntmps5
  go_upto_region 1 with (fail)
  go_cut [27] (fun v27 wc => ∃ (kq : Nat) (x27_2 : Bool), v27 = .bool x27_2 ∧ Aside0 (laws_FnMarkOrder.j0 kq l0 l1 x27_2 = some r) ∧ Aside0 (kq ≤ k) ∧ Aside0 (Below w.heap.size w wc))
  case first =>
    have H := HC3.out
    clear HC3
    by_cases c4 : (l0.length : Int) > 2147483647
    · rw [if_pos c4] at H
      have c4b0 : decide (2147483647 < (l0.length : Int)) = true := decide_eq_true c4
      have c4b1 : decide (2147483647 < l0.length) = true := decide_eq_true (by omega)
      clear c4
      (first | rw [c4b0] | (simp only [i64_w, i32_w]; rw [c4b0]) | skip)
      have H' := Aside0.mk H
      clear H
      go_wp2
      go_meet
      case rel => exact ⟨_, (true), (by first | rfl | (simp; done) | (simp [*]; done)), H', ⟨by first | omega | exact Nat.le_refl _⟩, ⟨by repeat (first | (with_reducible first | exact HB.out | apply below_alloc | apply pw_below_drewN | apply below_drew1) | exact HB.out)⟩⟩
    · rw [if_neg c4] at H
      have c4b0 : decide (2147483647 < (l0.length : Int)) = false := decide_eq_false c4
      have c4b1 : decide (2147483647 < l0.length) = false := decide_eq_false (by omega)
      clear c4
      (first | rw [c4b0] | (simp only [i64_w, i32_w]; rw [c4b0]) | skip)
      have H' := Aside0.mk H
      clear H
      go_wp2
      go_meet
      case rel => exact ⟨_, (decide ((l1.length : Int) > 2147483647)), (by first | rfl | (simp; done) | (simp [*]; done)), H', ⟨by first | omega | exact Nat.le_refl _⟩, ⟨by repeat (first | (with_reducible first | exact HB.out | apply below_alloc | apply pw_below_drewN | apply below_drew1) | exact HB.out)⟩⟩
  case rest =>
    clear HC3
    try clear c1
    try clear p2
    try clear c4
    try clear c4b0
    try clear c4b1
    obtain ⟨kq, x27_2, rfl, HA, HJ2, HB⟩ := hcut
    cases kq with
    | zero => exact absurd HA.out (by simp [laws_FnMarkOrder.j0])
    | succ kj2 =>
      have H := HA.out
      clear HA
      simp only [laws_FnMarkOrder.j0] at H
      by_cases c5 : x27_2 = true
      · subst c5
        have H1 : (some true) = some r := by rw [if_pos rfl] at H; exact H
        clear H
        have H := H1
        clear H1
        obtain rfl := Option.some.inj H
        go_wp2
        go_ret
        exact ⟨by first | rfl | (simp [errW_none, errW_some] <;> rfl) | (simp [*, errW_none, errW_some] <;> rfl), by repeat (first | (with_reducible first | exact HB.out | apply below_alloc | apply pw_below_drewN | apply below_drew1) | exact HB.out)⟩
      · replace c5 := Bool.eq_false_iff.mpr c5
        subst c5
        have H1 : (laws_FnMarkOrder.l0 kj2 l0 l1 (([] : List Int)) 0 l0 (l0.length : Int) 0) = some r := by rw [if_neg (show ¬ (false = true) by decide)] at H; exact H
        clear H
        have H := H1
        clear H1
        obtain ⟨y199, hy199⟩ : ∃ y_ : List Int, y_ = (([] : List Int)) := ⟨_, rfl⟩
        replace H : (laws_FnMarkOrder.l0 kj2 l0 l1 y199 0 l0 (l0.length : Int) 0) = some r := by first | (rw [hy199]; with_reducible exact H) | (have H2_ := (Option.bind_some _ _).symm.trans H; rw [hy199]; with_reducible exact H2_) | (have H2_ := (Option.bind_some _ _).symm.trans H; with_reducible exact H2_) | with_reducible exact H | (rw [hy199]; exact H) | exact H
        have Ny199 := Aside0.mk hy199
        clear hy199
        have H' := Aside0.mk H
        clear H
        go_wp2_with (first | ((with_reducible refine gate_dst (N := 28) rfl ?_); (try (refine gate_guard (by rfl) ?_; dsimp only)); refine Kd.R_lit (Kd.int .i64) _ 3 ?hg (N := 28) ?hd (xs := ([] : List Int)) (inner := []) (ok := fun _ => True) (okp := fun _ => True) ?hr ?hp (fun _ hk => hk) trivial (Below.refl _ _) (Nat.le_refl _) (by simp) ?_; (case hd => rfl); (case hg => rfl); (case hr => first | (go_simp; done) | (go_simp; rfl)); (case hp => exact (Reps.none _ _)); intro v200 w6 ho7 hb hg_ hnew_; clear hg_ hnew_; (first | rw [← Ny199.out] at ho7 | (simp only [Int.reduceToNat] at ho7; rw [← Ny199.out] at ho7)); have n0_ := Aside0.mk (Kd.R_lower ho7 (below_size (by repeat (first | (with_reducible first | exact HB.out | apply below_alloc | apply pw_below_drewN | apply below_drew1) | exact HB.out)))); have n1_ := Aside0.mk (below_step (by repeat (first | (with_reducible first | exact HB.out | apply below_alloc | apply pw_below_drewN | apply below_drew1) | exact HB.out)) hb); clear HB; have HO201 := n0_; have HB := n1_; clear n0_ n1_; clear hb ho7))
        go_loopg [5, 6, 31] kj2 (fun kq v5 v6 v31 w' => ∃ (x5_2 : List Int) (x6_2 : Int) (x31_2 : Int), v6 = .int .i64 x6_2 ∧ v31 = .int .i64 x31_2 ∧ Aside0 (laws_FnMarkOrder.l0 kq l0 l1 x5_2 x6_2 l0 (l0.length : Int) x31_2 = some r) ∧ Aside0 (kq ≤ kj2) ∧ Aside0 (Kd.R (Kd.int .i64) 3 w' w.heap.size (fun _ => True) v5 x5_2) ∧ Aside0 (Below w.heap.size w w'))
        case atStart => exact ⟨(y199), (0), (0), (by first | rfl | (simp; done) | (simp [*]; done)), (by first | rfl | (simp; done) | (simp [*]; done)), H', ⟨Nat.le_refl _⟩, ⟨by (with_reducible repeat (first | apply Kd.R_alloc | apply Kd.R_drewN | apply Kd.R_drew)); exact HO201.out⟩, ⟨by repeat (first | (with_reducible first | exact HB.out | apply below_alloc | apply pw_below_drewN | apply below_drew1) | exact HB.out)⟩⟩
        case round =>
          clear H'
          try clear c1
          try clear p2
          try clear c4
          try clear c4b0
          try clear c4b1
          try clear c5
          try clear p2
          obtain ⟨x5_2, x6_2, x31_2, rfl, rfl, HA, HK2, HO_5, HB⟩ := hrel
          cases gk with
          | zero => exact absurd HA.out (by simp [laws_FnMarkOrder.l0])
          | succ k2 =>
            have H := HA.out
            clear HA
            simp only [laws_FnMarkOrder.l0] at H
            by_cases c8 : x31_2 < (l0.length : Int)
            · rw [if_pos c8] at H
              have c8b0 : decide (x31_2 < (l0.length : Int)) = true := decide_eq_true c8
              clear c8
              by_cases c9 : 0 ≤ x31_2
              · rw [if_pos c9] at H
                have c9b0 : decide (0 ≤ x31_2) = true := decide_eq_true c9
                clear c9
                by_cases c10 : x31_2 < (l0.length : Int)
                · rw [if_pos c10] at H
                  have c10b0 : decide (x31_2 < (l0.length : Int)) = true := decide_eq_true c10
                  clear c10
                  by_cases c11 : (rd l0 x31_2) < 0
                  · rw [if_pos c11] at H
                    have c11b0 : decide ((rd l0 x31_2) < 0) = true := decide_eq_true c11
                    clear c11
                    replace H := Option.bind_eq_some_iff.mp H
                    obtain ⟨t203, A120, H⟩ := H
                    replace H : (some t203) = some r := H
                    have A12 := Aside0.mk A120
                    clear A120
                    obtain rfl := Option.some.inj H
                    have p202 : 0 ≤ (x31_2 : Int) := of_decide_eq_true (by first | (with_reducible assumption) | assumption)
                    have q202 : x31_2 < (l0.length : Int) := of_decide_eq_true (by first | (with_reducible assumption) | assumption)
                    obtain ⟨ad202, e202, hx202_0⟩ := Kd.at_int HR0.out x31_2 p202 q202
                    cases e202
                    replace hx202_0 := (HB.out.cell (World.block_lt_of_cell? w _ hx202_0)).trans hx202_0
                    replace p202 := eq_true p202
                    replace q202 := eq_true q202
                    go_wp2_with (first | ((with_reducible refine gate_callee (f := 13) rfl ?_); refine goesL_ (some 53) rfl rfl Try.func13 (by kernel_rfl) rfl #[] rfl (by (try simp only [List.map_toArray, List.map_cons, List.map_nil]); first | done | rfl | (simp only [List.length_drop, List.length_take]; rfl)) ?_; (with_reducible refine (laws_marksWork.calls  t203 _ A12.out).mono ?_); rintro e w13 ⟨rfl, hb⟩; refine ⟨_, rfl, ?_⟩; have n0_ := Aside0.mk (Kd.R_below (by (with_reducible repeat (first | apply Kd.R_alloc | apply Kd.R_drewN | apply Kd.R_drew)); exact HO_5.out) hb); have n1_ := Aside0.mk (below_step (by repeat (first | (with_reducible first | exact HB.out | apply below_alloc | apply pw_below_drewN | apply below_drew1) | exact HB.out)) hb); clear HO_5; clear HB; have HO_5 := n0_; have HB := n1_; clear n0_ n1_; (try clear hb); (try clear hb2); (try clear hk); (try clear hi)))
                    go_ret
                    exact ⟨by first | rfl | (simp [errW_none, errW_some] <;> rfl) | (simp [*, errW_none, errW_some] <;> rfl), by repeat (first | (with_reducible first | exact HB.out | apply below_alloc | apply pw_below_drewN | apply below_drew1) | exact HB.out)⟩
                  · rw [if_neg c11] at H
                    have c11b0 : decide ((rd l0 x31_2) < 0) = false := decide_eq_false c11
                    clear c11
                    by_cases c14 : (rd l0 x31_2) > 1048576
                    · rw [if_pos c14] at H
                      have c14b0 : decide (1048576 < (rd l0 x31_2)) = true := decide_eq_true c14
                      clear c14
                      replace H := Option.bind_eq_some_iff.mp H
                      obtain ⟨t204, A150, H⟩ := H
                      replace H : (some t204) = some r := H
                      have A15 := Aside0.mk A150
                      clear A150
                      obtain rfl := Option.some.inj H
                      have p202 : 0 ≤ (x31_2 : Int) := of_decide_eq_true (by first | (with_reducible assumption) | assumption)
                      have q202 : x31_2 < (l0.length : Int) := of_decide_eq_true (by first | (with_reducible assumption) | assumption)
                      obtain ⟨ad202, e202, hx202_0⟩ := Kd.at_int HR0.out x31_2 p202 q202
                      cases e202
                      replace hx202_0 := (HB.out.cell (World.block_lt_of_cell? w _ hx202_0)).trans hx202_0
                      replace p202 := eq_true p202
                      replace q202 := eq_true q202
                      go_wp2_with (first | ((with_reducible refine gate_callee (f := 13) rfl ?_); refine goesL_ (some 53) rfl rfl Try.func13 (by kernel_rfl) rfl #[] rfl (by (try simp only [List.map_toArray, List.map_cons, List.map_nil]); first | done | rfl | (simp only [List.length_drop, List.length_take]; rfl)) ?_; (with_reducible refine (laws_marksWork.calls  t204 _ A15.out).mono ?_); rintro e w16 ⟨rfl, hb⟩; refine ⟨_, rfl, ?_⟩; have n0_ := Aside0.mk (Kd.R_below (by (with_reducible repeat (first | apply Kd.R_alloc | apply Kd.R_drewN | apply Kd.R_drew)); exact HO_5.out) hb); have n1_ := Aside0.mk (below_step (by repeat (first | (with_reducible first | exact HB.out | apply below_alloc | apply pw_below_drewN | apply below_drew1) | exact HB.out)) hb); clear HO_5; clear HB; have HO_5 := n0_; have HB := n1_; clear n0_ n1_; (try clear hb); (try clear hb2); (try clear hk); (try clear hi)))
                      go_ret
                      exact ⟨by first | rfl | (simp [errW_none, errW_some] <;> rfl) | (simp [*, errW_none, errW_some] <;> rfl), by repeat (first | (with_reducible first | exact HB.out | apply below_alloc | apply pw_below_drewN | apply below_drew1) | exact HB.out)⟩
                    · rw [if_neg c14] at H
                      have c14b0 : decide (1048576 < (rd l0 x31_2)) = false := decide_eq_false c14
                      clear c14
                      by_cases c17 : (l0.length : Int) > 300
                      · rw [if_pos c17] at H
                        have c17b0 : decide (300 < (l0.length : Int)) = true := decide_eq_true c17
                        have c17b1 : decide (300 < l0.length) = true := decide_eq_true (by omega)
                        clear c17
                        replace H := Option.bind_eq_some_iff.mp H
                        obtain ⟨t205, A180, H⟩ := H
                        replace H : (some t205) = some r := H
                        have A18 := Aside0.mk A180
                        clear A180
                        obtain rfl := Option.some.inj H
                        have p202 : 0 ≤ (x31_2 : Int) := of_decide_eq_true (by first | (with_reducible assumption) | assumption)
                        have q202 : x31_2 < (l0.length : Int) := of_decide_eq_true (by first | (with_reducible assumption) | assumption)
                        obtain ⟨ad202, e202, hx202_0⟩ := Kd.at_int HR0.out x31_2 p202 q202
                        cases e202
                        replace hx202_0 := (HB.out.cell (World.block_lt_of_cell? w _ hx202_0)).trans hx202_0
                        replace p202 := eq_true p202
                        replace q202 := eq_true q202
                        go_wp2_with (first | ((with_reducible refine gate_callee (f := 13) rfl ?_); refine goesL_ (some 53) rfl rfl Try.func13 (by kernel_rfl) rfl #[] rfl (by (try simp only [List.map_toArray, List.map_cons, List.map_nil]); first | done | rfl | (simp only [List.length_drop, List.length_take]; rfl)) ?_; (with_reducible refine (laws_marksWork.calls  t205 _ A18.out).mono ?_); rintro e w19 ⟨rfl, hb⟩; refine ⟨_, rfl, ?_⟩; have n0_ := Aside0.mk (Kd.R_below (by (with_reducible repeat (first | apply Kd.R_alloc | apply Kd.R_drewN | apply Kd.R_drew)); exact HO_5.out) hb); have n1_ := Aside0.mk (below_step (by repeat (first | (with_reducible first | exact HB.out | apply below_alloc | apply pw_below_drewN | apply below_drew1) | exact HB.out)) hb); clear HO_5; clear HB; have HO_5 := n0_; have HB := n1_; clear n0_ n1_; (try clear hb); (try clear hb2); (try clear hk); (try clear hi)))
                        go_ret
                        exact ⟨by first | rfl | (simp [errW_none, errW_some] <;> rfl) | (simp [*, errW_none, errW_some] <;> rfl), by repeat (first | (with_reducible first | exact HB.out | apply below_alloc | apply pw_below_drewN | apply below_drew1) | exact HB.out)⟩
                      · rw [if_neg c17] at H
                        have c17b0 : decide (300 < (l0.length : Int)) = false := decide_eq_false c17
                        have c17b1 : decide (300 < l0.length) = false := decide_eq_false (by omega)
                        clear c17
                        by_cases c20 : (l1.length : Int) < (l0.length : Int)
                        · rw [if_pos c20] at H
                          have c20b0 : decide ((l1.length : Int) < (l0.length : Int)) = true := decide_eq_true c20
                          have c20b1 : decide (l1.length < l0.length) = true := decide_eq_true (Int.ofNat_lt.mp c20)
                          clear c20
                          replace H := Option.bind_eq_some_iff.mp H
                          obtain ⟨t206, A210, H⟩ := H
                          replace H : (some t206) = some r := H
                          have A21 := Aside0.mk A210
                          clear A210
                          obtain rfl := Option.some.inj H
                          have p202 : 0 ≤ (x31_2 : Int) := of_decide_eq_true (by first | (with_reducible assumption) | assumption)
                          have q202 : x31_2 < (l0.length : Int) := of_decide_eq_true (by first | (with_reducible assumption) | assumption)
                          obtain ⟨ad202, e202, hx202_0⟩ := Kd.at_int HR0.out x31_2 p202 q202
                          cases e202
                          replace hx202_0 := (HB.out.cell (World.block_lt_of_cell? w _ hx202_0)).trans hx202_0
                          replace p202 := eq_true p202
                          replace q202 := eq_true q202
                          go_wp2_with (first | ((with_reducible refine gate_callee (f := 13) rfl ?_); refine goesL_ (some 53) rfl rfl Try.func13 (by kernel_rfl) rfl #[] rfl (by (try simp only [List.map_toArray, List.map_cons, List.map_nil]); first | done | rfl | (simp only [List.length_drop, List.length_take]; rfl)) ?_; (with_reducible refine (laws_marksWork.calls  t206 _ A21.out).mono ?_); rintro e w22 ⟨rfl, hb⟩; refine ⟨_, rfl, ?_⟩; have n0_ := Aside0.mk (Kd.R_below (by (with_reducible repeat (first | apply Kd.R_alloc | apply Kd.R_drewN | apply Kd.R_drew)); exact HO_5.out) hb); have n1_ := Aside0.mk (below_step (by repeat (first | (with_reducible first | exact HB.out | apply below_alloc | apply pw_below_drewN | apply below_drew1) | exact HB.out)) hb); clear HO_5; clear HB; have HO_5 := n0_; have HB := n1_; clear n0_ n1_; (try clear hb); (try clear hb2); (try clear hk); (try clear hi)))
                          go_ret
                          exact ⟨by first | rfl | (simp [errW_none, errW_some] <;> rfl) | (simp [*, errW_none, errW_some] <;> rfl), by repeat (first | (with_reducible first | exact HB.out | apply below_alloc | apply pw_below_drewN | apply below_drew1) | exact HB.out)⟩
                        · rw [if_neg c20] at H
                          have c20b0 : decide ((l1.length : Int) < (l0.length : Int)) = false := decide_eq_false c20
                          have c20b1 : decide (l1.length < l0.length) = false := decide_eq_false (fun h => c20 (Int.ofNat_lt.mpr h))
                          clear c20
                          by_cases c23 : x5_2.length < 17592186044416
                          · rw [if_pos c23] at H
                            have LMc23 := Aside0.mk c23
                            clear c23
                            obtain ⟨y207, hy207⟩ : ∃ y_ : List Int, y_ = (x5_2 ++ [wrap64 (x6_2 + (wrap64 (1 + (rd l0 x31_2))))]) := ⟨_, rfl⟩
                            replace H : (laws_FnMarkOrder.l0 k2 l0 l1 y207 (wrap64 (x6_2 + (wrap64 (1 + (rd l0 x31_2))))) l0 (l0.length : Int) (wrap64 (x31_2 + 1))) = some r := by first | (rw [hy207]; with_reducible exact H) | (have H2_ := (Option.bind_some _ _).symm.trans H; rw [hy207]; with_reducible exact H2_) | (have H2_ := (Option.bind_some _ _).symm.trans H; with_reducible exact H2_) | with_reducible exact H | (rw [hy207]; exact H) | exact H
                            have Ny207 := Aside0.mk hy207
                            clear hy207
                            have H' := Aside0.mk H
                            clear H
                            have p202 : 0 ≤ (x31_2 : Int) := of_decide_eq_true (by first | (with_reducible assumption) | assumption)
                            have q202 : x31_2 < (l0.length : Int) := of_decide_eq_true (by first | (with_reducible assumption) | assumption)
                            obtain ⟨ad202, e202, hx202_0⟩ := Kd.at_int HR0.out x31_2 p202 q202
                            cases e202
                            replace hx202_0 := (HB.out.cell (World.block_lt_of_cell? w _ hx202_0)).trans hx202_0
                            replace p202 := eq_true p202
                            replace q202 := eq_true q202
                            go_wp2_with (first | ((with_reducible refine gate_builtin (b := .append) (xs := #[.tmp 58, .tmp 60]) rfl ?_); (try (refine gate_guard (by rfl) ?_; dsimp only)); at_builtin; refine Kd.R_append (Kd.int .i64) (w0 := w) w.heap.size rfl (.tmp 58) (.tmp 60) 29 3 (.int .i64 0) 8 rfl Try.underlying29 info3 rfl (by decide) (by omega) u5 x5_2 (wrap64 (x6_2 + (wrap64 (1 + (rd l0 x31_2))))) [.int .i64 (wrap64 (x6_2 + (wrap64 (1 + (rd l0 x31_2)))))] (fun _ => True) (fun _ => False) rfl rfl ?aP (fun _ hk => hk.elim) ?aF ?aO ?aB ?aS ?aL ?_; (case aP => exact rfl); (case aB => exact (by repeat (first | (with_reducible first | exact HB.out | apply below_alloc | apply pw_below_drewN | apply below_drew1) | exact HB.out))); (case aF => exact (fun _ _ => trivial)); (case aO => exact (by (with_reducible repeat (first | apply Kd.R_alloc | apply Kd.R_drewN | apply Kd.R_drew)); exact HO_5.out)); (case aS => exact (below_size (by repeat (first | (with_reducible first | exact HB.out | apply below_alloc | apply pw_below_drewN | apply below_drew1) | exact HB.out)))); (case aL => have := LMc23.out; omega); intro v208 w24 ho hb hg hat; rw [← Ny207.out] at ho; have n0_ := Aside0.mk (hb); have n1_ := Aside0.mk (ho); clear HB; clear HO_5; have HB := n0_; have HO209 := n1_; clear n0_ n1_; clear ho hb hg hat))
                            go_roundg k2
                            case measure => have := HJ2.out; have := HK2.out; omega
                            case rel => exact ⟨(y207), (wrap64 (x6_2 + (wrap64 (1 + (rd l0 x31_2))))), (wrap64 (x31_2 + 1)), (by first | rfl | (simp; done) | (simp [*]; done)), (by first | rfl | (simp; done) | (simp [*]; done)), H', ⟨by have := HJ2.out; have := HK2.out; omega⟩, ⟨by (with_reducible repeat (first | apply Kd.R_alloc | apply Kd.R_drewN | apply Kd.R_drew)); exact HO209.out⟩, ⟨by repeat (first | (with_reducible first | exact HB.out | apply below_alloc | apply pw_below_drewN | apply below_drew1) | exact HB.out)⟩⟩
                          · rw [if_neg c23] at H
                            exact absurd H (by simp)
                · rw [if_neg c10] at H
                  exact absurd H (by simp)
              · rw [if_neg c9] at H
                exact absurd H (by simp)
            · rw [if_neg c8] at H
              have c8b0 : decide (x31_2 < (l0.length : Int)) = false := decide_eq_false c8
              clear c8
              obtain ⟨y210, hy210⟩ : ∃ y_ : List (S31), y_ = (([] : List (S31))) := ⟨_, rfl⟩
              replace H : (laws_FnMarkOrder.l1 k2 l1 x5_2 y210 x5_2 (x5_2.length : Int) 0) = some r := by first | (rw [hy210]; with_reducible exact H) | (have H2_ := (Option.bind_some _ _).symm.trans H; rw [hy210]; with_reducible exact H2_) | (have H2_ := (Option.bind_some _ _).symm.trans H; with_reducible exact H2_) | with_reducible exact H | (rw [hy210]; exact H) | exact H
              have Ny210 := Aside0.mk hy210
              clear hy210
              have H' := Aside0.mk H
              clear H
              go_wp2_with (first | ((with_reducible refine gate_dst (N := 63) rfl ?_); (try (refine gate_guard (by rfl) ?_; dsimp only)); refine Kd.S_lit k31 _ 31 ?hg (N := 63) ?hd (xs := ([] : List (S31))) (inner := []) (ok := fun _ => True) (okp := fun _ => True) ?hr ?hp (fun _ hk => hk) trivial (Below.refl _ _) (Nat.le_refl _) (by simp) ?_; (case hd => rfl); (case hg => rfl); (case hr => first | (go_simp; done) | (go_simp; rfl)); (case hp => exact (Reps.none _ _)); intro v211 w25 ho26 hb hg_ hnew_; clear hg_ hnew_; (first | rw [← Ny210.out] at ho26 | (simp only [Int.reduceToNat] at ho26; rw [← Ny210.out] at ho26)); have n0_ := Aside0.mk (Kd.R_below (by (with_reducible repeat (first | apply Kd.R_alloc | apply Kd.R_drewN | apply Kd.R_drew)); exact HO_5.out) hb); have n1_ := Aside0.mk (Kd.S_lower (Kd.S_new' ho26 (Kd.R_lt (by (with_reducible repeat (first | apply Kd.R_alloc | apply Kd.R_drewN | apply Kd.R_drew)); exact HO_5.out))) (below_size (by repeat (first | (with_reducible first | exact HB.out | apply below_alloc | apply pw_below_drewN | apply below_drew1) | exact HB.out)))); have n2_ := Aside0.mk (below_step (by repeat (first | (with_reducible first | exact HB.out | apply below_alloc | apply pw_below_drewN | apply below_drew1) | exact HB.out)) hb); clear HO_5; clear HB; have HO_5 := n0_; have HO212 := n1_; have HB := n2_; clear n0_ n1_ n2_; clear hb ho26; obtain ⟨Ao27, co27, eo27⟩ := Kd.R_slice HO_5.out; subst eo27))
              go_loopg [9, 66] k2 (fun kq v9 v66 w' => ∃ (x9_3 : List (S31)) (x66_3 : Int), v66 = .int .i64 x66_3 ∧ Aside0 (laws_FnMarkOrder.l1 kq l1 x5_2 x9_3 x5_2 (x5_2.length : Int) x66_3 = some r) ∧ Aside0 (kq ≤ k2) ∧ Aside0 (Kd.R (Kd.int .i64) 3 w' w.heap.size (fun _ => True) (.slice Ao27 x5_2.length co27) x5_2) ∧ Aside0 (Kd.S k31 31 w' w.heap.size (fun k_ => some k_ ≠ ((.slice Ao27 x5_2.length co27) : Value).ownBlock ∧ some k_ ≠ ((.slice Ao27 x5_2.length co27) : Value).ownBlock) v9 x9_3) ∧ Aside0 (Kd.R (Kd.int .i64) 3 w' w.heap.size (fun _ => True) (.slice Ao27 x5_2.length co27) x5_2) ∧ Aside0 (Below w.heap.size w w'))
              case atStart => exact ⟨(y210), (0), (by first | rfl | (simp; done) | (simp [*]; done)), H', ⟨Nat.le_refl _⟩, ⟨by (with_reducible repeat (first | apply Kd.R_alloc | apply Kd.R_drewN | apply Kd.R_drew)); exact HO_5.out⟩, ⟨by (with_reducible repeat (first | apply Kd.S_alloc | apply Kd.S_drewN | apply Kd.S_drew)); exact Kd.S_mono HO212.out (fun _ hk => ⟨hk.2, hk.2⟩)⟩, ⟨by (with_reducible repeat (first | apply Kd.R_alloc | apply Kd.R_drewN | apply Kd.R_drew)); exact HO_5.out⟩, ⟨by repeat (first | (with_reducible first | exact HB.out | apply below_alloc | apply pw_below_drewN | apply below_drew1) | exact HB.out)⟩⟩
              case round =>
                clear H'
                try clear c1
                try clear c2
                try clear p2
                try clear q2
                try clear hx2
                try clear c4
                try clear c4b0
                try clear c4b1
                try clear c5
                try clear p6
                try clear c8
                try clear c8b0
                try clear c9
                try clear c9b0
                try clear c10
                try clear c10b0
                try clear c11
                try clear c11b0
                try clear c13
                try clear c14
                try clear c14b0
                try clear c17
                try clear c17b0
                try clear c17b1
                try clear c20
                try clear c20b0
                try clear c20b1
                try clear p20
                try clear q20
                try clear hx20
                try clear c23
                try clear hx202_0
                try clear p2
                try clear p202
                try clear q202
                obtain ⟨x9_3, x66_3, rfl, HA, HK3, HO_5, HO_9, HO_64, HB⟩ := hrel
                cases gk with
                | zero => exact absurd HA.out (by simp [laws_FnMarkOrder.l1])
                | succ k3 =>
                  have H := HA.out
                  clear HA
                  simp only [laws_FnMarkOrder.l1] at H
                  by_cases c28 : x66_3 < (x5_2.length : Int)
                  · rw [if_pos c28] at H
                    have c28b0 : decide (x66_3 < (x5_2.length : Int)) = true := decide_eq_true c28
                    clear c28
                    by_cases c29 : 0 ≤ x66_3
                    · rw [if_pos c29] at H
                      have c29b0 : decide (0 ≤ x66_3) = true := decide_eq_true c29
                      clear c29
                      by_cases c30 : x66_3 < (x5_2.length : Int)
                      · rw [if_pos c30] at H
                        have c30b0 : decide (x66_3 < (x5_2.length : Int)) = true := decide_eq_true c30
                        clear c30
                        by_cases c31 : x9_3.length < 3518437208883
                        · rw [if_pos c31] at H
                          have LMc31 := Aside0.mk c31
                          clear c31
                          obtain ⟨y214, hy214⟩ : ∃ y_ : List (S31), y_ = (x9_3 ++ [(⟨0, rd x5_2 x66_3, ([] : List Int)⟩ : S31)]) := ⟨_, rfl⟩
                          replace H : (laws_FnMarkOrder.l1 k3 l1 x5_2 y214 x5_2 (x5_2.length : Int) (wrap64 (x66_3 + 1))) = some r := by first | (rw [hy214]; with_reducible exact H) | (have H2_ := (Option.bind_some _ _).symm.trans H; rw [hy214]; with_reducible exact H2_) | (have H2_ := (Option.bind_some _ _).symm.trans H; with_reducible exact H2_) | with_reducible exact H | (rw [hy214]; exact H) | exact H
                          have Ny214 := Aside0.mk hy214
                          clear hy214
                          have H' := Aside0.mk H
                          clear H
                          have p213 : 0 ≤ (x66_3 : Int) := of_decide_eq_true (by first | (with_reducible assumption) | assumption)
                          have q213 : x66_3 < (x5_2.length : Int) := of_decide_eq_true (by first | (with_reducible assumption) | assumption)
                          obtain ⟨ad213, e213, hx213_0⟩ := Kd.at_int (Kd.R_reads' HO_64.out).2.2 x66_3 p213 q213
                          cases e213
                          replace p213 := eq_true p213
                          replace q213 := eq_true q213
                          go_wp2_with (first | ((with_reducible refine gate_builtin (b := .append) (xs := #[.tmp 70, .tmp 73]) rfl ?_); (try (refine gate_guard (by rfl) ?_; dsimp only)); at_builtin; refine Kd.S_append k31 (w0 := w) w.heap.size rfl (.tmp 70) (.tmp 73) 22 31 (.agg #[(.int .i64 0), (.int .i64 0), (.slice none 0 0)]) 40 rfl Try.underlying22 info31 rfl (by decide) (by omega) u9 x9_3 (⟨0, rd x5_2 x66_3, ([] : List Int)⟩ : S31) [.int .i64 0, .int .i64 (rd x5_2 x66_3), .slice none 0 0] (fun k_ => some k_ ≠ (.slice (some ad213) x5_2.length co27 : Value).ownBlock ∧ some k_ ≠ (.slice (some ad213) x5_2.length co27 : Value).ownBlock) (fun _ => False) rfl rfl ?aP (fun k_ hk_ => hk_.elim) ?aF ?aO ?aB ?aS ?aL ?_; (case aP => exact k31_mkM _ _ _ (⟨0, rd x5_2 x66_3, ([] : List Int)⟩ : S31) (Kd.R_nil _ _ _ _ _)); (case aB => exact (by repeat (first | (with_reducible first | exact HB.out | apply below_alloc | apply pw_below_drewN | apply below_drew1) | exact HB.out))); (case aF => exact (fun k_ hk => ⟨Kd.fresh' (Kd.R_lt (by (with_reducible repeat (first | apply Kd.R_alloc | apply Kd.R_drewN | apply Kd.R_drew)); exact HO_5.out)) k_ hk, Kd.fresh' (Kd.R_lt (by (with_reducible repeat (first | apply Kd.R_alloc | apply Kd.R_drewN | apply Kd.R_drew)); exact HO_64.out)) k_ hk⟩)); (case aO => exact (by (with_reducible repeat (first | apply Kd.S_alloc | apply Kd.S_drewN | apply Kd.S_drew)); exact Kd.S_mono HO_9.out (fun k_ hk => ⟨⟨hk.1, hk.2⟩, fun e_ => e_⟩))); (case aS => exact (below_size (by repeat (first | (with_reducible first | exact HB.out | apply below_alloc | apply pw_below_drewN | apply below_drew1) | exact HB.out)))); (case aL => have := LMc31.out; omega); intro v215 w32 ho hb hg hat; rw [← Ny214.out] at ho; have n0_ := Aside0.mk (Kd.R_over' (by (with_reducible repeat (first | apply Kd.R_alloc | apply Kd.R_drewN | apply Kd.R_drew)); exact HO_5.out) (Kd.S_typed (by (with_reducible repeat (first | apply Kd.S_alloc | apply Kd.S_drewN | apply Kd.S_drew)); exact HO_9.out)) (by decide) hg); have n1_ := Aside0.mk (Kd.R_over' (by (with_reducible repeat (first | apply Kd.R_alloc | apply Kd.R_drewN | apply Kd.R_drew)); exact HO_64.out) (Kd.S_typed (by (with_reducible repeat (first | apply Kd.S_alloc | apply Kd.S_drewN | apply Kd.S_drew)); exact HO_9.out)) (by decide) hg); have n2_ := Aside0.mk (hb); have n3_ := Aside0.mk (ho); clear HO_5; clear HO_64; clear HB; clear HO_9; have HO_5 := n0_; have HO_64 := n1_; have HB := n2_; have HO216 := n3_; clear n0_ n1_ n2_ n3_; clear ho hb hg hat))
                          go_roundg k3
                          case measure => have := HJ2.out; have := HK2.out; have := HK3.out; omega
                          case rel => exact ⟨(y214), (wrap64 (x66_3 + 1)), (by first | rfl | (simp; done) | (simp [*]; done)), H', ⟨by have := HJ2.out; have := HK2.out; have := HK3.out; omega⟩, ⟨by (with_reducible repeat (first | apply Kd.R_alloc | apply Kd.R_drewN | apply Kd.R_drew)); exact HO_5.out⟩, ⟨by (with_reducible repeat (first | apply Kd.S_alloc | apply Kd.S_drewN | apply Kd.S_drew)); exact HO216.out⟩, ⟨by (with_reducible repeat (first | apply Kd.R_alloc | apply Kd.R_drewN | apply Kd.R_drew)); exact HO_64.out⟩, ⟨by repeat (first | (with_reducible first | exact HB.out | apply below_alloc | apply pw_below_drewN | apply below_drew1) | exact HB.out)⟩⟩
                        · rw [if_neg c31] at H
                          exact absurd H (by simp)
                      · rw [if_neg c30] at H
                        exact absurd H (by simp)
                    · rw [if_neg c29] at H
                      exact absurd H (by simp)
                  · rw [if_neg c28] at H
                    have c28b0 : decide (x66_3 < (x5_2.length : Int)) = false := decide_eq_false c28
                    clear c28
                    obtain ⟨y217, hy217⟩ : ∃ y_ : List Int, y_ = (([] : List Int)) := ⟨_, rfl⟩
                    replace H : (if y217.length + x5_2.length < 17592186044416 then (laws_FnMarkOrder.l2 k3 l1 x5_2 x9_3 (y217 ++ x5_2) (x5_2.length : Int) 0) else (none)) = some r := by first | (rw [hy217]; with_reducible exact H) | (have H2_ := (Option.bind_some _ _).symm.trans H; rw [hy217]; with_reducible exact H2_) | (have H2_ := (Option.bind_some _ _).symm.trans H; with_reducible exact H2_) | with_reducible exact H | (rw [hy217]; exact H) | exact H
                    have Ny217 := Aside0.mk hy217
                    clear hy217
                    by_cases c33 : y217.length + x5_2.length < 17592186044416
                    · rw [if_pos c33] at H
                      have LMc33 := Aside0.mk c33
                      clear c33
                      obtain ⟨y220, hy220⟩ : ∃ y_ : List Int, y_ = (y217 ++ x5_2) := ⟨_, rfl⟩
                      replace H : (laws_FnMarkOrder.l2 k3 l1 x5_2 x9_3 y220 (x5_2.length : Int) 0) = some r := by first | (rw [hy220]; with_reducible exact H) | (have H2_ := (Option.bind_some _ _).symm.trans H; rw [hy220]; with_reducible exact H2_) | (have H2_ := (Option.bind_some _ _).symm.trans H; with_reducible exact H2_) | with_reducible exact H | (rw [hy220]; exact H) | exact H
                      have Ny220 := Aside0.mk hy220
                      clear hy220
                      have H' := Aside0.mk H
                      clear H
                      go_wp2_with (first | ((with_reducible refine gate_dst (N := 76) rfl ?_); (try (refine gate_guard (by rfl) ?_; dsimp only)); refine Kd.R_lit (Kd.int .i64) _ 3 ?hg (N := 76) ?hd (xs := ([] : List Int)) (inner := []) (ok := fun _ => True) (okp := fun _ => True) ?hr ?hp (fun _ hk => hk) trivial (Below.refl _ _) (Nat.le_refl _) (by simp) ?_; (case hd => rfl); (case hg => rfl); (case hr => first | (go_simp; done) | (go_simp; rfl)); (case hp => exact (Reps.none _ _)); intro v218 w34 ho35 hb hg_ hnew_; clear hg_ hnew_; (first | rw [← Ny217.out] at ho35 | (simp only [Int.reduceToNat] at ho35; rw [← Ny217.out] at ho35)); have n0_ := Aside0.mk (Kd.R_elder' (by (with_reducible repeat (first | apply Kd.R_alloc | apply Kd.R_drewN | apply Kd.R_drew)); exact HO_5.out) (Kd.R_base ho35) hb); have n1_ := Aside0.mk (Kd.S_elder' (by (with_reducible repeat (first | apply Kd.S_alloc | apply Kd.S_drewN | apply Kd.S_drew)); exact HO_9.out) (Kd.R_base ho35) hb); have n2_ := Aside0.mk (Kd.R_elder' (by (with_reducible repeat (first | apply Kd.R_alloc | apply Kd.R_drewN | apply Kd.R_drew)); exact HO_64.out) (Kd.R_base ho35) hb); have n3_ := Aside0.mk (Kd.R_lower (Kd.R_new' (Kd.R_new' ho35 (Kd.R_lt (by (with_reducible repeat (first | apply Kd.R_alloc | apply Kd.R_drewN | apply Kd.R_drew)); exact HO_5.out))) (Kd.R_lt (by (with_reducible repeat (first | apply Kd.R_alloc | apply Kd.R_drewN | apply Kd.R_drew)); exact HO_64.out))) (below_size (by repeat (first | (with_reducible first | exact HB.out | apply below_alloc | apply pw_below_drewN | apply below_drew1) | exact HB.out)))); have n4_ := Aside0.mk (below_step (by repeat (first | (with_reducible first | exact HB.out | apply below_alloc | apply pw_below_drewN | apply below_drew1) | exact HB.out)) hb); clear HO_5; clear HO_9; clear HO_64; clear HB; have HO_5 := n0_; have HO_9 := n1_; have HO_64 := n2_; have HO219 := n3_; have HB := n4_; clear n0_ n1_ n2_ n3_ n4_; clear hb ho35) | ((with_reducible refine gate_builtin (b := .append) (xs := #[.tmp 76, .tmp 77]) rfl ?_); (try (refine gate_guard (by rfl) ?_; dsimp only)); at_builtin; refine Kd.R_append_rows (Kd.int .i64) (w0 := w) w.heap.size rfl (.tmp 76) (.tmp 77) 29 3 (.int .i64 0) 8 rfl Try.underlying29 info3 rfl (by decide) (by omega) v218 y217 x5_2 _ _ _ (fun k_ => some k_ ≠ (.slice Ao27 x5_2.length co27 : Value).ownBlock ∧ some k_ ≠ (.slice Ao27 x5_2.length co27 : Value).ownBlock) (fun _ => False) rfl rfl ?aO ?aR (fun _ _ h => h) (fun _ h => h.elim) ?aF ?aB ?aS ?aL ?_; (case aR => repeat (first | exact (Kd.R_reads' HO_5.out).2.2 | (with_reducible refine Kd.C_alloc ?_ _) | (with_reducible refine Kd.C_drewN ?_ _) | (with_reducible refine Kd.C_drew ?_))); (case aB => exact (by repeat (first | (with_reducible first | exact HB.out | apply below_alloc | apply pw_below_drewN | apply below_drew1) | exact HB.out))); (case aF => exact (fun k_ hk => ⟨Kd.fresh' (Kd.R_lt (by (with_reducible repeat (first | apply Kd.R_alloc | apply Kd.R_drewN | apply Kd.R_drew)); exact HO_5.out)) k_ hk, Kd.fresh' (Kd.R_lt (by (with_reducible repeat (first | apply Kd.R_alloc | apply Kd.R_drewN | apply Kd.R_drew)); exact HO_64.out)) k_ hk⟩)); (case aO => exact (by (with_reducible repeat (first | apply Kd.R_alloc | apply Kd.R_drewN | apply Kd.R_drew)); exact Kd.R_mono HO219.out (fun _ hk => ⟨hk.1.2, hk.2⟩))); (case aS => exact (below_size (by repeat (first | (with_reducible first | exact HB.out | apply below_alloc | apply pw_below_drewN | apply below_drew1) | exact HB.out)))); (case aL => have := LMc33.out; omega); intro v221 w36 ho hb hg hat; rw [← Ny220.out] at ho; have n0_ := Aside0.mk (Kd.R_after (ok := (fun _ => True)) (by (with_reducible repeat (first | apply Kd.R_alloc | apply Kd.R_drewN | apply Kd.R_drew)); exact HO_5.out) hg hat); have n1_ := Aside0.mk (Kd.S_after (ok := (fun k_ => some k_ ≠ (.slice Ao27 x5_2.length co27 : Value).ownBlock ∧ some k_ ≠ (.slice Ao27 x5_2.length co27 : Value).ownBlock)) (by (with_reducible repeat (first | apply Kd.S_alloc | apply Kd.S_drewN | apply Kd.S_drew)); exact HO_9.out) hg hat); have n2_ := Aside0.mk (Kd.R_after (ok := (fun _ => True)) (by (with_reducible repeat (first | apply Kd.R_alloc | apply Kd.R_drewN | apply Kd.R_drew)); exact HO_64.out) hg hat); have n3_ := Aside0.mk (hb); have n4_ := Aside0.mk (ho); clear HO_5; clear HO_9; clear HO_64; clear HB; clear HO219; have HO_5 := n0_; have HO_9 := n1_; have HO_64 := n2_; have HB := n3_; have HO222 := n4_; clear n0_ n1_ n2_ n3_ n4_; clear ho hb hg hat))
                      go_loopg [9, 12, 81] k3 (fun kq v9 v12 v81 w' => ∃ (x9_4 : List (S31)) (x12_4 : List Int) (x81_4 : Int), v81 = .int .i64 x81_4 ∧ Aside0 (laws_FnMarkOrder.l2 kq l1 x5_2 x9_4 x12_4 (x5_2.length : Int) x81_4 = some r) ∧ Aside0 (kq ≤ k3) ∧ Aside0 (Kd.R (Kd.int .i64) 3 w' w.heap.size (fun k_ => some k_ ≠ (v12 : Value).ownBlock) (.slice Ao27 x5_2.length co27) x5_2) ∧ Aside0 (Kd.S k31 31 w' w.heap.size (fun k_ => some k_ ≠ ((.slice Ao27 x5_2.length co27) : Value).ownBlock ∧ some k_ ≠ (v12 : Value).ownBlock) v9 x9_4) ∧ Aside0 (Kd.R (Kd.int .i64) 3 w' w.heap.size (fun k_ => some k_ ≠ ((.slice Ao27 x5_2.length co27) : Value).ownBlock) v12 x12_4) ∧ Aside0 (Below w.heap.size w w'))
                      case atStart => exact ⟨(x9_3), (y220), (0), (by first | rfl | (simp; done) | (simp [*]; done)), H', ⟨Nat.le_refl _⟩, ⟨by (with_reducible repeat (first | apply Kd.R_alloc | apply Kd.R_drewN | apply Kd.R_drew)); exact Kd.R_mono HO_5.out (fun _ hk => hk.2)⟩, ⟨by (with_reducible repeat (first | apply Kd.S_alloc | apply Kd.S_drewN | apply Kd.S_drew)); exact Kd.S_mono HO_9.out (fun _ hk => ⟨hk.1.1, hk.2⟩)⟩, ⟨by (with_reducible repeat (first | apply Kd.R_alloc | apply Kd.R_drewN | apply Kd.R_drew)); exact Kd.R_mono HO222.out (fun _ hk => hk.1)⟩, ⟨by repeat (first | (with_reducible first | exact HB.out | apply below_alloc | apply pw_below_drewN | apply below_drew1) | exact HB.out)⟩⟩
                      case round =>
                        clear H'
                        try clear c1
                        try clear c2
                        try clear p2
                        try clear q2
                        try clear hx2
                        try clear c3
                        try clear c4
                        try clear c4b0
                        try clear c4b1
                        try clear c5
                        try clear p6
                        try clear c8
                        try clear c8b0
                        try clear c9
                        try clear c9b0
                        try clear c10
                        try clear c10b0
                        try clear c11
                        try clear c11b0
                        try clear c13
                        try clear c14
                        try clear c14b0
                        try clear c17
                        try clear c17b0
                        try clear c17b1
                        try clear c20
                        try clear c20b0
                        try clear c20b1
                        try clear p20
                        try clear q20
                        try clear hx20
                        try clear p21
                        try clear q21
                        try clear hx21
                        try clear c23
                        try clear c28
                        try clear c28b0
                        try clear c29
                        try clear c29b0
                        try clear c30
                        try clear c30b0
                        try clear c31
                        try clear c33
                        try clear hx202_0
                        try clear hx213_0
                        try clear p2
                        try clear p20
                        try clear p202
                        try clear p213
                        try clear p6
                        try clear q2
                        try clear q20
                        try clear q202
                        try clear q213
                        obtain ⟨x9_4, x12_4, x81_4, rfl, HA, HK4, HO_5, HO_9, HO_12, HB⟩ := hrel
                        cases gk with
                        | zero => exact absurd HA.out (by simp [laws_FnMarkOrder.l2])
                        | succ k4 =>
                          have H := HA.out
                          clear HA
                          simp only [laws_FnMarkOrder.l2] at H
                          by_cases c37 : x81_4 < (x5_2.length : Int)
                          · rw [if_pos c37] at H
                            have c37b0 : decide (x81_4 < (x5_2.length : Int)) = true := decide_eq_true c37
                            clear c37
                            by_cases c38 : 0 ≤ x81_4
                            · rw [if_pos c38] at H
                              have c38b0 : decide (0 ≤ x81_4) = true := decide_eq_true c38
                              clear c38
                              by_cases c39 : x81_4 < (l1.length : Int)
                              · rw [if_pos c39] at H
                                have c39b0 : decide (x81_4 < (l1.length : Int)) = true := decide_eq_true c39
                                clear c39
                                by_cases c40 : (rd l1 x81_4) < 0
                                · rw [if_pos c40] at H
                                  have c40b0 : decide ((rd l1 x81_4) < 0) = true := decide_eq_true c40
                                  clear c40
                                  replace H := Option.bind_eq_some_iff.mp H
                                  obtain ⟨t224, A410, H⟩ := H
                                  replace H : (some t224) = some r := H
                                  have A41 := Aside0.mk A410
                                  clear A410
                                  obtain rfl := Option.some.inj H
                                  have p223 : 0 ≤ (x81_4 : Int) := of_decide_eq_true (by first | (with_reducible assumption) | assumption)
                                  have q223 : x81_4 < (l1.length : Int) := of_decide_eq_true (by first | (with_reducible assumption) | assumption)
                                  obtain ⟨ad223, e223, hx223_0⟩ := Kd.at_int HR1.out x81_4 p223 q223
                                  cases e223
                                  replace hx223_0 := (HB.out.cell (World.block_lt_of_cell? w _ hx223_0)).trans hx223_0
                                  replace p223 := eq_true p223
                                  replace q223 := eq_true q223
                                  go_wp2_with (first | ((with_reducible refine gate_callee (f := 13) rfl ?_); refine goesL_ (some 89) rfl rfl Try.func13 (by kernel_rfl) rfl #[] rfl (by (try simp only [List.map_toArray, List.map_cons, List.map_nil]); first | done | rfl | (simp only [List.length_drop, List.length_take]; rfl)) ?_; (with_reducible refine (laws_marksWork.calls  t224 _ A41.out).mono ?_); rintro e w42 ⟨rfl, hb⟩; refine ⟨_, rfl, ?_⟩; have n0_ := Aside0.mk (Kd.R_below (by (with_reducible repeat (first | apply Kd.R_alloc | apply Kd.R_drewN | apply Kd.R_drew)); exact HO_5.out) hb); have n1_ := Aside0.mk (Kd.S_below (by (with_reducible repeat (first | apply Kd.S_alloc | apply Kd.S_drewN | apply Kd.S_drew)); exact HO_9.out) hb); have n2_ := Aside0.mk (Kd.R_below (by (with_reducible repeat (first | apply Kd.R_alloc | apply Kd.R_drewN | apply Kd.R_drew)); exact HO_12.out) hb); have n3_ := Aside0.mk (below_step (by repeat (first | (with_reducible first | exact HB.out | apply below_alloc | apply pw_below_drewN | apply below_drew1) | exact HB.out)) hb); clear HO_5; clear HO_9; clear HO_12; clear HB; have HO_5 := n0_; have HO_9 := n1_; have HO_12 := n2_; have HB := n3_; clear n0_ n1_ n2_ n3_; (try clear hb); (try clear hb2); (try clear hk); (try clear hi)))
                                  go_ret
                                  exact ⟨by first | rfl | (simp [errW_none, errW_some] <;> rfl) | (simp [*, errW_none, errW_some] <;> rfl), by repeat (first | (with_reducible first | exact HB.out | apply below_alloc | apply pw_below_drewN | apply below_drew1) | exact HB.out)⟩
                                · rw [if_neg c40] at H
                                  have c40b0 : decide ((rd l1 x81_4) < 0) = false := decide_eq_false c40
                                  clear c40
                                  by_cases c43 : (x12_4.length : Int) = 0
                                  · rw [if_pos c43] at H
                                    exact absurd H (by simp)
                                  · rw [if_neg c43] at H
                                    have c43b0 : ((x12_4.length : Int) == 0) = false := beq_eq_false_iff_ne.mpr c43
                                    have c43b1 : ((x12_4.length : Int) != 0) = true := bne_iff_ne.mpr c43
                                    have c43b2 : ¬ (x12_4 = []) := fun h_ => c43 (by rw [h_]; rfl)
                                    obtain ⟨ji44, hji44⟩ : ∃ j_ : Int, (Int.tmod (rd l1 x81_4) (x12_4.length : Int)) = j_ := ⟨_, rfl⟩
                                    replace H : (if 0 ≤ (ji44) then (if (ji44) < (x12_4.length : Int) then (if x9_4.length < 3518437208883 then ((some (([] : List Int) : List Int)).bind fun y230 => (if (ji44) ≤ (x12_4.length : Int) then ((some (x12_4.take ((ji44) : Int).toNat : List Int)).bind fun y233 => (if y230.length + y233.length < 17592186044416 then ((some (y230 ++ y233 : List Int)).bind fun y237 => (if 0 ≤ (wrap64 ((ji44) + 1)) then (if (wrap64 ((ji44) + 1)) ≤ (x12_4.length : Int) then ((some (x12_4.drop ((wrap64 ((ji44) + 1)) : Int).toNat : List Int)).bind fun y240 => (if y237.length + y240.length < 17592186044416 then (laws_FnMarkOrder.l2 k4 l1 x5_2 (x9_4 ++ [(⟨2, rd x12_4 (ji44), ([] : List Int)⟩ : S31)]) (y237 ++ y240) (x5_2.length : Int) (wrap64 (x81_4 + 1))) else (none))) else (none)) else (none))) else (none))) else (none))) else (none)) else (none)) else (none)) = some r := by first | (rw [hji44] at H; exact H) | (simp only [hji44] at H ⊢; exact H)
                                    by_cases c45 : 0 ≤ (ji44)
                                    · rw [if_pos c45] at H
                                      have c45b0 : decide (0 ≤ (ji44)) = true := decide_eq_true c45
                                      clear c45
                                      by_cases c46 : (ji44) < (x12_4.length : Int)
                                      · rw [if_pos c46] at H
                                        have c46b0 : decide ((ji44) < (x12_4.length : Int)) = true := decide_eq_true c46
                                        clear c46
                                        by_cases c47 : x9_4.length < 3518437208883
                                        · rw [if_pos c47] at H
                                          have LMc47 := Aside0.mk c47
                                          clear c47
                                          obtain ⟨y227, hy227⟩ : ∃ y_ : List (S31), y_ = (x9_4 ++ [(⟨2, rd x12_4 (ji44), ([] : List Int)⟩ : S31)]) := ⟨_, rfl⟩
                                          replace H : ((some (([] : List Int) : List Int)).bind fun y230 => (if (ji44) ≤ (x12_4.length : Int) then ((some (x12_4.take ((ji44) : Int).toNat : List Int)).bind fun y233 => (if y230.length + y233.length < 17592186044416 then ((some (y230 ++ y233 : List Int)).bind fun y237 => (if 0 ≤ (wrap64 ((ji44) + 1)) then (if (wrap64 ((ji44) + 1)) ≤ (x12_4.length : Int) then ((some (x12_4.drop ((wrap64 ((ji44) + 1)) : Int).toNat : List Int)).bind fun y240 => (if y237.length + y240.length < 17592186044416 then (laws_FnMarkOrder.l2 k4 l1 x5_2 y227 (y237 ++ y240) (x5_2.length : Int) (wrap64 (x81_4 + 1))) else (none))) else (none)) else (none))) else (none))) else (none))) = some r := by first | (rw [hy227]; with_reducible exact H) | (have H2_ := (Option.bind_some _ _).symm.trans H; rw [hy227]; with_reducible exact H2_) | (have H2_ := (Option.bind_some _ _).symm.trans H; with_reducible exact H2_) | with_reducible exact H | (rw [hy227]; exact H) | exact H
                                          have Ny227 := Aside0.mk hy227
                                          clear hy227
                                          obtain ⟨y230, hy230⟩ : ∃ y_ : List Int, y_ = (([] : List Int)) := ⟨_, rfl⟩
                                          replace H : (if (ji44) ≤ (x12_4.length : Int) then ((some (x12_4.take ((ji44) : Int).toNat : List Int)).bind fun y233 => (if y230.length + y233.length < 17592186044416 then ((some (y230 ++ y233 : List Int)).bind fun y237 => (if 0 ≤ (wrap64 ((ji44) + 1)) then (if (wrap64 ((ji44) + 1)) ≤ (x12_4.length : Int) then ((some (x12_4.drop ((wrap64 ((ji44) + 1)) : Int).toNat : List Int)).bind fun y240 => (if y237.length + y240.length < 17592186044416 then (laws_FnMarkOrder.l2 k4 l1 x5_2 y227 (y237 ++ y240) (x5_2.length : Int) (wrap64 (x81_4 + 1))) else (none))) else (none)) else (none))) else (none))) else (none)) = some r := by first | (rw [hy230]; with_reducible exact H) | (have H2_ := (Option.bind_some _ _).symm.trans H; rw [hy230]; with_reducible exact H2_) | (have H2_ := (Option.bind_some _ _).symm.trans H; with_reducible exact H2_) | with_reducible exact H | (rw [hy230]; exact H) | exact H
                                          have Ny230 := Aside0.mk hy230
                                          clear hy230
                                          have c48b0 := eq_true (of_decide_eq_true (by first | (with_reducible assumption) | assumption) : 0 ≤ (ji44))
                                          by_cases c49 : (ji44) ≤ (x12_4.length : Int)
                                          · rw [if_pos c49] at H
                                            have c49b0 := eq_true c49
                                            have c49b1 : decide ((ji44) ≤ (x12_4.length : Int)) = true := decide_eq_true c49
                                            clear c49
                                            obtain ⟨y233, hy233⟩ : ∃ y_ : List Int, y_ = (x12_4.take ((ji44) : Int).toNat) := ⟨_, rfl⟩
                                            replace H : (if y230.length + y233.length < 17592186044416 then ((some (y230 ++ y233 : List Int)).bind fun y237 => (if 0 ≤ (wrap64 ((ji44) + 1)) then (if (wrap64 ((ji44) + 1)) ≤ (x12_4.length : Int) then ((some (x12_4.drop ((wrap64 ((ji44) + 1)) : Int).toNat : List Int)).bind fun y240 => (if y237.length + y240.length < 17592186044416 then (laws_FnMarkOrder.l2 k4 l1 x5_2 y227 (y237 ++ y240) (x5_2.length : Int) (wrap64 (x81_4 + 1))) else (none))) else (none)) else (none))) else (none)) = some r := by first | (rw [hy233]; with_reducible exact H) | (have H2_ := (Option.bind_some _ _).symm.trans H; rw [hy233]; with_reducible exact H2_) | (have H2_ := (Option.bind_some _ _).symm.trans H; with_reducible exact H2_) | with_reducible exact H | (rw [hy233]; exact H) | exact H
                                            have Ny233 := Aside0.mk hy233
                                            clear hy233
                                            by_cases c50 : y230.length + y233.length < 17592186044416
                                            · rw [if_pos c50] at H
                                              have LMc50 := Aside0.mk c50
                                              clear c50
                                              obtain ⟨y237, hy237⟩ : ∃ y_ : List Int, y_ = (y230 ++ y233) := ⟨_, rfl⟩
                                              replace H : (if 0 ≤ (wrap64 ((ji44) + 1)) then (if (wrap64 ((ji44) + 1)) ≤ (x12_4.length : Int) then ((some (x12_4.drop ((wrap64 ((ji44) + 1)) : Int).toNat : List Int)).bind fun y240 => (if y237.length + y240.length < 17592186044416 then (laws_FnMarkOrder.l2 k4 l1 x5_2 y227 (y237 ++ y240) (x5_2.length : Int) (wrap64 (x81_4 + 1))) else (none))) else (none)) else (none)) = some r := by first | (rw [hy237]; with_reducible exact H) | (have H2_ := (Option.bind_some _ _).symm.trans H; rw [hy237]; with_reducible exact H2_) | (have H2_ := (Option.bind_some _ _).symm.trans H; with_reducible exact H2_) | with_reducible exact H | (rw [hy237]; exact H) | exact H
                                              have Ny237 := Aside0.mk hy237
                                              clear hy237
                                              obtain ⟨ji51, hji51⟩ : ∃ j_ : Int, (wrap64 ((ji44) + 1)) = j_ := ⟨_, rfl⟩
                                              replace H : (if 0 ≤ (ji51) then (if (ji51) ≤ (x12_4.length : Int) then ((some (x12_4.drop ((ji51) : Int).toNat : List Int)).bind fun y240 => (if y237.length + y240.length < 17592186044416 then (laws_FnMarkOrder.l2 k4 l1 x5_2 y227 (y237 ++ y240) (x5_2.length : Int) (wrap64 (x81_4 + 1))) else (none))) else (none)) else (none)) = some r := by first | (rw [hji51] at H; exact H) | (simp only [hji51] at H ⊢; exact H)
                                              have hji51w : (IntKind.i64.wrap ((ji44) + 1)) = ji51 := (i64_w _).trans hji51
                                              by_cases c52 : 0 ≤ (ji51)
                                              · rw [if_pos c52] at H
                                                have c52b0 := eq_true c52
                                                have c52b1 : decide (0 ≤ (ji51)) = true := decide_eq_true c52
                                                clear c52
                                                by_cases c53 : (ji51) ≤ (x12_4.length : Int)
                                                · rw [if_pos c53] at H
                                                  have c53b0 := eq_true c53
                                                  have c53b1 : decide ((ji51) ≤ (x12_4.length : Int)) = true := decide_eq_true c53
                                                  clear c53
                                                  obtain ⟨y240, hy240⟩ : ∃ y_ : List Int, y_ = (x12_4.drop ((ji51) : Int).toNat) := ⟨_, rfl⟩
                                                  replace H : (if y237.length + y240.length < 17592186044416 then (laws_FnMarkOrder.l2 k4 l1 x5_2 y227 (y237 ++ y240) (x5_2.length : Int) (wrap64 (x81_4 + 1))) else (none)) = some r := by first | (rw [hy240]; with_reducible exact H) | (have H2_ := (Option.bind_some _ _).symm.trans H; rw [hy240]; with_reducible exact H2_) | (have H2_ := (Option.bind_some _ _).symm.trans H; with_reducible exact H2_) | with_reducible exact H | (rw [hy240]; exact H) | exact H
                                                  have Ny240 := Aside0.mk hy240
                                                  clear hy240
                                                  by_cases c54 : y237.length + y240.length < 17592186044416
                                                  · rw [if_pos c54] at H
                                                    have LMc54 := Aside0.mk c54
                                                    clear c54
                                                    obtain ⟨y244, hy244⟩ : ∃ y_ : List Int, y_ = (y237 ++ y240) := ⟨_, rfl⟩
                                                    replace H : (laws_FnMarkOrder.l2 k4 l1 x5_2 y227 y244 (x5_2.length : Int) (wrap64 (x81_4 + 1))) = some r := by first | (rw [hy244]; with_reducible exact H) | (have H2_ := (Option.bind_some _ _).symm.trans H; rw [hy244]; with_reducible exact H2_) | (have H2_ := (Option.bind_some _ _).symm.trans H; with_reducible exact H2_) | with_reducible exact H | (rw [hy244]; exact H) | exact H
                                                    have Ny244 := Aside0.mk hy244
                                                    clear hy244
                                                    have H' := Aside0.mk H
                                                    clear H
                                                    have p223 : 0 ≤ (x81_4 : Int) := of_decide_eq_true (by first | (with_reducible assumption) | assumption)
                                                    have q223 : x81_4 < (l1.length : Int) := of_decide_eq_true (by first | (with_reducible assumption) | assumption)
                                                    obtain ⟨ad223, e223, hx223_0⟩ := Kd.at_int HR1.out x81_4 p223 q223
                                                    cases e223
                                                    replace hx223_0 := (HB.out.cell (World.block_lt_of_cell? w _ hx223_0)).trans hx223_0
                                                    replace p223 := eq_true p223
                                                    replace q223 := eq_true q223
                                                    have p225 : 0 ≤ (x81_4 : Int) := of_decide_eq_true (by first | (with_reducible assumption) | assumption)
                                                    have q225 : x81_4 < (l1.length : Int) := of_decide_eq_true (by first | (with_reducible assumption) | assumption)
                                                    obtain ⟨ad225, e225, hx225_0⟩ := Kd.at_int HR1.out x81_4 p225 q225
                                                    obtain rfl : ad223 = ad225 := (by injection e225)
                                                    replace hx225_0 := (HB.out.cell (World.block_lt_of_cell? w _ hx225_0)).trans hx225_0
                                                    replace p225 := eq_true p225
                                                    replace q225 := eq_true q225
                                                    obtain ⟨Ao55, co55, eo55⟩ := Kd.R_slice HO_12.out
                                                    subst eo55
                                                    have p226 : 0 ≤ ((ji44) : Int) := of_decide_eq_true (by first | (with_reducible assumption) | assumption)
                                                    have q226 : (ji44) < (x12_4.length : Int) := of_decide_eq_true (by first | (with_reducible assumption) | assumption)
                                                    obtain ⟨ad226, e226, hx226_0⟩ := Kd.at_int (Kd.R_reads' HO_12.out).2.2 (ji44) p226 q226
                                                    cases e226
                                                    replace p226 := eq_true p226
                                                    replace q226 := eq_true q226
                                                    try go_wp2_with (first | ((with_reducible refine gate_builtin (b := .append) (xs := #[.tmp 97, .tmp 103]) rfl ?_); (try (refine gate_guard (by rfl) ?_; dsimp only)); at_builtin; refine Kd.S_append k31 (w0 := w) w.heap.size rfl (.tmp 97) (.tmp 103) 22 31 (.agg #[(.int .i64 0), (.int .i64 0), (.slice none 0 0)]) 40 rfl Try.underlying22 info31 rfl (by decide) (by omega) u9 x9_4 (⟨2, rd x12_4 (ji44), ([] : List Int)⟩ : S31) [.int .i64 2, .int .i64 (rd x12_4 (ji44)), .slice none 0 0] (fun k_ => some k_ ≠ (.slice Ao27 x5_2.length co27 : Value).ownBlock ∧ some k_ ≠ (.slice (some ad226) x12_4.length co55 : Value).ownBlock) (fun _ => False) rfl rfl ?aP (fun k_ hk_ => hk_.elim) ?aF ?aO ?aB ?aS ?aL ?_; (case aP => exact k31_mkM _ _ _ (⟨2, rd x12_4 (ji44), ([] : List Int)⟩ : S31) (Kd.R_nil _ _ _ _ _)); (case aB => exact (by repeat (first | (with_reducible first | exact HB.out | apply below_alloc | apply pw_below_drewN | apply below_drew1) | exact HB.out))); (case aF => exact (fun k_ hk => ⟨Kd.fresh' (Kd.R_lt (by (with_reducible repeat (first | apply Kd.R_alloc | apply Kd.R_drewN | apply Kd.R_drew)); exact HO_5.out)) k_ hk, Kd.fresh' (Kd.R_lt (by (with_reducible repeat (first | apply Kd.R_alloc | apply Kd.R_drewN | apply Kd.R_drew)); exact HO_12.out)) k_ hk⟩)); (case aO => exact (by (with_reducible repeat (first | apply Kd.S_alloc | apply Kd.S_drewN | apply Kd.S_drew)); exact Kd.S_mono HO_9.out (fun k_ hk => ⟨⟨hk.1, hk.2⟩, fun e_ => e_⟩))); (case aS => exact (below_size (by repeat (first | (with_reducible first | exact HB.out | apply below_alloc | apply pw_below_drewN | apply below_drew1) | exact HB.out)))); (case aL => have := LMc47.out; omega); intro v228 w56 ho hb hg hat; rw [← Ny227.out] at ho; have n0_ := Aside0.mk (Kd.R_over' (by (with_reducible repeat (first | apply Kd.R_alloc | apply Kd.R_drewN | apply Kd.R_drew)); exact HO_5.out) (Kd.S_typed (by (with_reducible repeat (first | apply Kd.S_alloc | apply Kd.S_drewN | apply Kd.S_drew)); exact HO_9.out)) (by decide) hg); have n1_ := Aside0.mk (Kd.R_over' (by (with_reducible repeat (first | apply Kd.R_alloc | apply Kd.R_drewN | apply Kd.R_drew)); exact HO_12.out) (Kd.S_typed (by (with_reducible repeat (first | apply Kd.S_alloc | apply Kd.S_drewN | apply Kd.S_drew)); exact HO_9.out)) (by decide) hg); have n2_ := Aside0.mk (hb); have n3_ := Aside0.mk (ho); clear HO_5; clear HO_12; clear HB; clear HO_9; have HO_5 := n0_; have HO_12 := n1_; have HB := n2_; have HO229 := n3_; clear n0_ n1_ n2_ n3_; clear ho hb hg hat))
                                                    have n0_ := Aside0.mk (Kd.R_drew HO_5.out)
                                                    have n1_ := Aside0.mk (Kd.R_drew HO_12.out)
                                                    have n2_ := Aside0.mk (Kd.S_drew HO229.out)
                                                    have n3_ := Aside0.mk (below_drew1 HB.out)
                                                    clear HO_5
                                                    clear HO_12
                                                    clear HO229
                                                    clear HB
                                                    have HO_5 := n0_
                                                    have HO_12 := n1_
                                                    have HO229 := n2_
                                                    have HB := n3_
                                                    clear n0_ n1_ n2_ n3_
                                                    have q58 : ((ji44) : Int) ≤ ((x12_4.length : Int) : Int) := of_decide_eq_true (by first | (with_reducible assumption) | assumption)
                                                    obtain ⟨i058, hi058, _, hsz58, _⟩ := info_parts info3
                                                    have hroom58 : x12_4.length ≤ co55 := (Kd.R_reads' HO_12.out).2.1
                                                    have hC58 : Kd.C (Kd.int .i64) _ (some ad226) x12_4.length x12_4 := (Kd.R_reads' HO_12.out).2.2
                                                    have hcut58 := cut_to (P := Try.prog) 29 3 .i64 Try.underlying29 hi058 (some ad226) x12_4.length co55 (ji44) (of_decide_eq_true (by first | (with_reducible assumption) | assumption)) q58 hroom58
                                                    have hr58 := Kd.C_take (m := ((ji44) : Int).toNat) hC58 (by omega)
                                                    have hy58 : y233.length = ((ji44) : Int).toNat := (by rw [Ny233.out, List.length_take]; omega)
                                                    rw [← Ny233.out] at hr58
                                                    rw [← hy58] at hcut58
                                                    have HR236 := Aside0.mk hr58
                                                    have HC236 := Aside0.mk (show y233.length ≤ co55 from by omega)
                                                    clear hr58 hC58 hroom58 hi058 hsz58
                                                    have KY58 := Aside0.mk hy58
                                                    clear hy58
                                                    have KL58 := Aside0.mk (show ((ji44) : Int).toNat ≤ x12_4.length from by omega)
                                                    replace q58 := eq_true q58
                                                    have q59 : ((ji51) : Int) ≤ ((x12_4.length : Int) : Int) := of_decide_eq_true (by first | (with_reducible assumption) | assumption)
                                                    obtain ⟨i059, hi059, _, hsz59, _⟩ := info_parts info3
                                                    have hroom59 : x12_4.length ≤ co55 := (Kd.R_reads' HO_12.out).2.1
                                                    have hC59 : Kd.C (Kd.int .i64) _ (some ad226) x12_4.length x12_4 := (Kd.R_reads' HO_12.out).2.2
                                                    have q059 : (0 : Int) ≤ ((ji51) : Int) := of_decide_eq_true (by first | (with_reducible assumption) | assumption)
                                                    have hcut59 := cut_from (P := Try.prog) 29 3 .i64 Try.underlying29 hi059 1 hsz59 (some ad226) x12_4.length co55 (ji51) q059 q59
                                                    have hr59 := Kd.C_drop (m := ((ji51) : Int).toNat) (c := co55) hC59 (by omega) hroom59
                                                    obtain ⟨A59, hA59⟩ : ∃ A1, A1 = (if co55 = ((ji51) : Int).toNat then (some ad226) else ((some ad226) : Option Addr).map (·.add (((ji51) : Int).toNat * 1))) := ⟨_, rfl⟩
                                                    obtain ⟨c59, hc59⟩ : ∃ c1, c1 = co55 - ((ji51) : Int).toNat := ⟨_, rfl⟩
                                                    have hy59 : y240.length = x12_4.length - ((ji51) : Int).toNat := (by rw [Ny240.out, List.length_drop] <;> omega)
                                                    rw [show (x12_4).drop ((ji51) : Int).toNat = y240 from Ny240.out.symm] at hr59
                                                    replace hr59 : Kd.C (Kd.int .i64) _ A59 y240.length y240 := (by rw [hA59]; exact hr59)
                                                    rw [← hy59, ← hA59, ← hc59] at hcut59
                                                    have HR243 := Aside0.mk hr59
                                                    have HC243 := Aside0.mk (show y240.length ≤ c59 from by rw [hy59, hc59]; exact Nat.sub_le_sub_right hroom59 _)
                                                    clear hr59 hC59 hroom59 hi059 hsz59 hc59
                                                    have KY59 := Aside0.mk hy59
                                                    have KA59 := Aside0.mk hA59
                                                    clear hy59 hA59
                                                    have KL59 := Aside0.mk (show ((ji51) : Int).toNat ≤ x12_4.length from by omega)
                                                    replace q59 := eq_true q59
                                                    refine start_ (n := 11) (S := fun w' => True) (ds := []) #[false, false, false, false, false, false, false, false, false, false, false] (by kernel_rfl) rfl rfl trivial (fun hHeld => ?_); refine with_tabW laws_FnMarkOrder.tab26 laws_FnMarkOrder.bits26 (fun HT_ HW_ => ?_)
                                                    generalize w56.drew = w57 at HO_5 HO_12 HO229 HB HR236 HR243 hHeld ⊢
                                                    refine pure_ (i := 1) (N := some 106) (v := ?_) (a' := ?_) #[false, true, false, false, false, false, false, false, false, false, false] rfl rfl (any_of HT_.out (by kernel_rfl)) (fun _ _ _ h => h) (Or.inl ⟨by rfl, ?_⟩) ?_ ?_
                                                    rotate_left
                                                    · intro w'
                                                      go_simp
                                                      with_reducible rfl
                                                    rotate_left
                                                    · simp only [Act.put, List.setIfInBounds_toArray, List.set_cons_zero, List.set_cons_succ, i64_w, i32_w]
                                                      rfl
                                                    refine pure_ (i := 2) (N := some 107) (v := ?_) (a' := ?_) #[false, true, true, false, false, false, false, false, false, false, false] rfl rfl (any_of HT_.out (by kernel_rfl)) (fun _ _ _ h => h) (Or.inl ⟨by rfl, ?_⟩) ?_ ?_
                                                    rotate_left
                                                    · intro w'
                                                      go_simp
                                                      with_reducible rfl
                                                    rotate_left
                                                    · simp only [Act.put, List.setIfInBounds_toArray, List.set_cons_zero, List.set_cons_succ, i64_w, i32_w]
                                                      rfl
                                                    refine pure_ (i := 3) (N := some 108) (v := ?_) (a' := ?_) #[false, true, true, true, false, false, false, false, false, false, false] rfl rfl (any_of HT_.out (by kernel_rfl)) (fun _ _ _ h => h) (Or.inl ⟨by rfl, ?_⟩) ?_ ?_
                                                    rotate_left
                                                    · intro w'
                                                      go_simp
                                                      with_reducible rfl
                                                    rotate_left
                                                    · simp only [Act.put, List.setIfInBounds_toArray, List.set_cons_zero, List.set_cons_succ, i64_w, i32_w]
                                                      rfl
                                                    refine pure_ (i := 5) (N := some 110) (v := ?_) (a' := ?_) #[false, true, true, true, false, true, false, false, false, false, false] rfl rfl (any_of HT_.out (by kernel_rfl)) (fun _ _ _ h => h) (Or.inl ⟨by rfl, ?_⟩) ?_ ?_
                                                    rotate_left
                                                    · intro w'
                                                      go_simp
                                                      with_reducible rfl
                                                    rotate_left
                                                    · simp only [Act.put, List.setIfInBounds_toArray, List.set_cons_zero, List.set_cons_succ, i64_w, i32_w]
                                                      rfl
                                                    refine pure_ (i := 6) (N := some 111) (v := ?_) (a' := ?_) #[false, true, true, true, false, true, true, false, false, false, false] rfl rfl (any_of HT_.out (by kernel_rfl)) (fun _ _ _ h => h) (Or.inl ⟨by rfl, ?_⟩) ?_ ?_
                                                    rotate_left
                                                    · intro w'
                                                      go_simp
                                                      with_reducible rfl
                                                    rotate_left
                                                    · simp only [Act.put, List.setIfInBounds_toArray, List.set_cons_zero, List.set_cons_succ, i64_w, i32_w]
                                                      rfl
                                                    refine pure_ (i := 7) (N := some 112) (v := ?_) (a' := ?_) #[false, true, true, true, false, true, true, true, false, false, false] rfl rfl (any_of HT_.out (by kernel_rfl)) (fun _ _ _ h => h) (Or.inl ⟨by rfl, ?_⟩) ?_ ?_
                                                    rotate_left
                                                    · intro w'
                                                      go_simp
                                                      with_reducible rfl
                                                    rotate_left
                                                    · simp only [Act.put, List.setIfInBounds_toArray, List.set_cons_zero, List.set_cons_succ, i64_w, i32_w]
                                                      rfl
                                                    refine pure_ (i := 8) (N := some 113) (v := ?_) (a' := ?_) #[false, true, true, true, false, true, true, true, true, false, false] rfl rfl (any_of HT_.out (by kernel_rfl)) (fun _ _ _ h => h) (Or.inl ⟨by rfl, ?_⟩) ?_ ?_
                                                    rotate_left
                                                    · intro w'
                                                      go_simp
                                                      with_reducible rfl
                                                    rotate_left
                                                    · simp only [Act.put, List.setIfInBounds_toArray, List.set_cons_zero, List.set_cons_succ, i64_w, i32_w]
                                                      rfl
                                                    refine one_ (i := 0) (N := some 105) #[true, true, true, true, false, true, true, true, true, false, false] rfl rfl (one_of HT_.out (by kernel_rfl)) (by decide) (fun K hK => ?_)
                                                    refine Kd.R_lit_step (Kd.int .i64) _ 3 ?hg (N := 105) ?hd (xs := ([] : List Int)) (inner := []) (ok := fun _ => True) (okp := fun _ => True) ?hr ?hp (fun _ hk => hk) trivial (Below.refl _ _) (Nat.le_refl _) (by simp) ?_; (case hd => rfl); (case hg => rfl); (case hr => first | (go_simp; done) | (go_simp; rfl)); (case hp => exact (Reps.none _ _))
                                                    intro v231 w60 ho61 hb hg_ hnew_
                                                    clear hg_ hnew_
                                                    (first | rw [← Ny230.out] at ho61 | (simp only [Int.reduceToNat] at ho61; rw [← Ny230.out] at ho61))
                                                    have n0_ := Aside0.mk (Kd.R_elder' (by (with_reducible repeat (first | apply Kd.R_alloc | apply Kd.R_drewN | apply Kd.R_drew)); exact HO_5.out) (Kd.R_base ho61) hb)
                                                    have n1_ := Aside0.mk (Kd.R_elder' (by (with_reducible repeat (first | apply Kd.R_alloc | apply Kd.R_drewN | apply Kd.R_drew)); exact HO_12.out) (Kd.R_base ho61) hb)
                                                    have n2_ := Aside0.mk (Kd.S_elder' (by (with_reducible repeat (first | apply Kd.S_alloc | apply Kd.S_drewN | apply Kd.S_drew)); exact HO229.out) (Kd.R_base ho61) hb)
                                                    have n3_ := Aside0.mk (Kd.R_lower (Kd.R_new' (Kd.R_new' ho61 (Kd.R_lt (by (with_reducible repeat (first | apply Kd.R_alloc | apply Kd.R_drewN | apply Kd.R_drew)); exact HO_5.out))) (Kd.R_lt (by (with_reducible repeat (first | apply Kd.R_alloc | apply Kd.R_drewN | apply Kd.R_drew)); exact HO_12.out))) (below_size (by repeat (first | (with_reducible first | exact HB.out | apply below_alloc | apply pw_below_drewN | apply below_drew1) | exact HB.out))))
                                                    have n4_ := Aside0.mk (Kd.C_below (by repeat (first | (with_reducible exact HR236.out) | (with_reducible refine Kd.C_alloc ?_ _) | (with_reducible refine Kd.C_drewN ?_ _) | (with_reducible refine Kd.C_drew ?_) | exact HR236.out)) hb)
                                                    have n5_ := Aside0.mk (Kd.C_below (by repeat (first | (with_reducible exact HR243.out) | (with_reducible refine Kd.C_alloc ?_ _) | (with_reducible refine Kd.C_drewN ?_ _) | (with_reducible refine Kd.C_drew ?_) | exact HR243.out)) hb)
                                                    have n6_ := Aside0.mk (below_step (by repeat (first | (with_reducible first | exact HB.out | apply below_alloc | apply pw_below_drewN | apply below_drew1) | exact HB.out)) hb)
                                                    clear HO_5
                                                    clear HO_12
                                                    clear HO229
                                                    clear HR236
                                                    clear HR243
                                                    clear HB
                                                    have HO_5 := n0_
                                                    have HO_12 := n1_
                                                    have HO229 := n2_
                                                    have HO232 := n3_
                                                    have HR236 := n4_
                                                    have HR243 := n5_
                                                    have HB := n6_
                                                    clear n0_ n1_ n2_ n3_ n4_ n5_ n6_
                                                    clear hb ho61
                                                    refine hK.out _ _ trivial (fun hHeld => ?_)
                                                    clear hK K
                                                    refine norm_ (a' := ?_) ?_ ?_
                                                    rotate_left
                                                    · show Act.put _ (some 105) _ = _
                                                      simp only [Act.put, List.setIfInBounds_toArray, List.set_cons_zero, List.set_cons_succ, i64_w, i32_w]
                                                      rfl
                                                    refine one_ (i := 4) (N := some 109) #[true, true, true, true, true, true, true, true, true, false, false] rfl rfl (one_of HT_.out (by kernel_rfl)) (by decide) (fun K hK => ?_)
                                                    refine Kd.R_append_rows_step (Kd.int .i64) (w0 := w) w.heap.size (by rfl) (.tmp 105) (.tmp 108) 29 3 (.int .i64 0) 8 rfl Try.underlying29 info3 rfl (by decide) (by omega) v231 y230 y233 _ _ _ (fun k_ => some k_ ≠ (.slice Ao27 x5_2.length co27 : Value).ownBlock ∧ some k_ ≠ (.slice (some ad226) x12_4.length co55 : Value).ownBlock) (fun _ => False) rfl rfl ?aO ?aR (fun _ _ h => h) (fun _ h => h.elim) ?aF ?aB ?aS ?aL ?_
                                                    (case aR => repeat (first | exact (by repeat (first | (with_reducible exact HR236.out) | (with_reducible refine Kd.C_alloc ?_ _) | (with_reducible refine Kd.C_drewN ?_ _) | (with_reducible refine Kd.C_drew ?_) | exact HR236.out)) | (with_reducible refine Kd.C_alloc ?_ _) | (with_reducible refine Kd.C_drewN ?_ _) | (with_reducible refine Kd.C_drew ?_)))
                                                    (case aB => exact (by repeat (first | (with_reducible first | exact HB.out | apply below_alloc | apply pw_below_drewN | apply below_drew1) | exact HB.out)))
                                                    (case aF => exact (fun k_ hk => ⟨Kd.fresh' (Kd.R_lt (by (with_reducible repeat (first | apply Kd.R_alloc | apply Kd.R_drewN | apply Kd.R_drew)); exact HO_5.out)) k_ hk, Kd.fresh' (Kd.R_lt (by (with_reducible repeat (first | apply Kd.R_alloc | apply Kd.R_drewN | apply Kd.R_drew)); exact HO_12.out)) k_ hk⟩))
                                                    (case aO => exact (by (with_reducible repeat (first | apply Kd.R_alloc | apply Kd.R_drewN | apply Kd.R_drew)); exact Kd.R_mono HO232.out (fun _ hk => ⟨hk.1.2, hk.2⟩)))
                                                    (case aS => exact (below_size (by repeat (first | (with_reducible first | exact HB.out | apply below_alloc | apply pw_below_drewN | apply below_drew1) | exact HB.out))))
                                                    (case aL => have := LMc50.out; omega)
                                                    intro v238 w62 ho hb hg hat
                                                    rw [← Ny237.out] at ho
                                                    have n0_ := Aside0.mk (Kd.R_after (ok := (fun k_ => some k_ ≠ (.slice (some ad226) x12_4.length co55 : Value).ownBlock)) (by (with_reducible repeat (first | apply Kd.R_alloc | apply Kd.R_drewN | apply Kd.R_drew)); exact HO_5.out) hg hat)
                                                    have n1_ := Aside0.mk (Kd.R_after (ok := (fun k_ => some k_ ≠ (.slice Ao27 x5_2.length co27 : Value).ownBlock)) (by (with_reducible repeat (first | apply Kd.R_alloc | apply Kd.R_drewN | apply Kd.R_drew)); exact HO_12.out) hg hat)
                                                    have n2_ := Aside0.mk (Kd.S_after (ok := (fun k_ => some k_ ≠ (.slice Ao27 x5_2.length co27 : Value).ownBlock ∧ some k_ ≠ (.slice (some ad226) x12_4.length co55 : Value).ownBlock)) (by (with_reducible repeat (first | apply Kd.S_alloc | apply Kd.S_drewN | apply Kd.S_drew)); exact HO229.out) hg hat)
                                                    have n3_ := Aside0.mk (hb)
                                                    have n4_ := Aside0.mk ((show Kd.C (Kd.int .i64) w62 (some ad226) y233.length y233 from by rw [Ny233.out]; exact Kd.C_take (m := ((ji44) : Int).toNat) ((Kd.R_reads' (Kd.R_after (ok := (fun k_ => some k_ ≠ (.slice Ao27 x5_2.length co27 : Value).ownBlock)) (by (with_reducible repeat (first | apply Kd.R_alloc | apply Kd.R_drewN | apply Kd.R_drew)); exact HO_12.out) hg hat)).2.2) KL58.out))
                                                    have n5_ := Aside0.mk ((show Kd.C (Kd.int .i64) w62 A59 y240.length y240 from by rw [Ny240.out, KA59.out]; exact Kd.C_drop (m := ((ji51) : Int).toNat) (c := co55) ((Kd.R_reads' (Kd.R_after (ok := (fun k_ => some k_ ≠ (.slice Ao27 x5_2.length co27 : Value).ownBlock)) (by (with_reducible repeat (first | apply Kd.R_alloc | apply Kd.R_drewN | apply Kd.R_drew)); exact HO_12.out) hg hat)).2.2) KL59.out ((Kd.R_reads' (Kd.R_after (ok := (fun k_ => some k_ ≠ (.slice Ao27 x5_2.length co27 : Value).ownBlock)) (by (with_reducible repeat (first | apply Kd.R_alloc | apply Kd.R_drewN | apply Kd.R_drew)); exact HO_12.out) hg hat)).2.1)))
                                                    have n6_ := Aside0.mk (ho)
                                                    clear HO_5
                                                    clear HO_12
                                                    clear HO229
                                                    clear HB
                                                    clear HR236
                                                    clear HR243
                                                    clear HO232
                                                    have HO_5 := n0_
                                                    have HO_12 := n1_
                                                    have HO229 := n2_
                                                    have HB := n3_
                                                    have HR236 := n4_
                                                    have HR243 := n5_
                                                    have HO239 := n6_
                                                    clear n0_ n1_ n2_ n3_ n4_ n5_ n6_
                                                    clear ho hb hg hat
                                                    refine hK.out _ _ trivial (fun hHeld => ?_)
                                                    clear hK K
                                                    refine norm_ (a' := ?_) ?_ ?_
                                                    rotate_left
                                                    · show Act.put _ (some 109) _ = _
                                                      simp only [Act.put, List.setIfInBounds_toArray, List.set_cons_zero, List.set_cons_succ, i64_w, i32_w]
                                                      rfl
                                                    refine one_ (i := 9) (N := some 114) #[true, true, true, true, true, true, true, true, true, true, false] rfl rfl (one_of HT_.out (by kernel_rfl)) (by decide) (fun K hK => ?_)
                                                    refine Kd.R_append_rows_step (Kd.int .i64) (w0 := w) w.heap.size (by rfl) (.tmp 109) (.tmp 113) 29 3 (.int .i64 0) 8 rfl Try.underlying29 info3 rfl (by decide) (by omega) v238 y237 y240 _ _ _ (fun k_ => some k_ ≠ (.slice Ao27 x5_2.length co27 : Value).ownBlock ∧ some k_ ≠ (.slice (some ad226) x12_4.length co55 : Value).ownBlock) (fun _ => False) rfl rfl ?aO ?aR (fun _ _ h => h) (fun _ h => h.elim) ?aF ?aB ?aS ?aL ?_
                                                    (case aR => repeat (first | exact (by repeat (first | (with_reducible exact HR243.out) | (with_reducible refine Kd.C_alloc ?_ _) | (with_reducible refine Kd.C_drewN ?_ _) | (with_reducible refine Kd.C_drew ?_) | exact HR243.out)) | (with_reducible refine Kd.C_alloc ?_ _) | (with_reducible refine Kd.C_drewN ?_ _) | (with_reducible refine Kd.C_drew ?_)))
                                                    (case aB => exact (by repeat (first | (with_reducible first | exact HB.out | apply below_alloc | apply pw_below_drewN | apply below_drew1) | exact HB.out)))
                                                    (case aF => exact (fun k_ hk => ⟨Kd.fresh' (Kd.R_lt (by (with_reducible repeat (first | apply Kd.R_alloc | apply Kd.R_drewN | apply Kd.R_drew)); exact HO_5.out)) k_ hk, Kd.fresh' (Kd.R_lt (by (with_reducible repeat (first | apply Kd.R_alloc | apply Kd.R_drewN | apply Kd.R_drew)); exact HO_12.out)) k_ hk⟩))
                                                    (case aO => exact (by (with_reducible repeat (first | apply Kd.R_alloc | apply Kd.R_drewN | apply Kd.R_drew)); exact HO239.out))
                                                    (case aS => exact (below_size (by repeat (first | (with_reducible first | exact HB.out | apply below_alloc | apply pw_below_drewN | apply below_drew1) | exact HB.out))))
                                                    (case aL => have := LMc54.out; omega)
                                                    intro v245 w63 ho hb hg hat
                                                    rw [← Ny244.out] at ho
                                                    have n0_ := Aside0.mk (Kd.R_after (ok := (fun k_ => some k_ ≠ (.slice (some ad226) x12_4.length co55 : Value).ownBlock)) (by (with_reducible repeat (first | apply Kd.R_alloc | apply Kd.R_drewN | apply Kd.R_drew)); exact HO_5.out) hg hat)
                                                    have n1_ := Aside0.mk (Kd.R_after (ok := (fun k_ => some k_ ≠ (.slice Ao27 x5_2.length co27 : Value).ownBlock)) (by (with_reducible repeat (first | apply Kd.R_alloc | apply Kd.R_drewN | apply Kd.R_drew)); exact HO_12.out) hg hat)
                                                    have n2_ := Aside0.mk (Kd.S_after (ok := (fun k_ => some k_ ≠ (.slice Ao27 x5_2.length co27 : Value).ownBlock ∧ some k_ ≠ (.slice (some ad226) x12_4.length co55 : Value).ownBlock)) (by (with_reducible repeat (first | apply Kd.S_alloc | apply Kd.S_drewN | apply Kd.S_drew)); exact HO229.out) hg hat)
                                                    have n3_ := Aside0.mk (hb)
                                                    have n4_ := Aside0.mk ((show Kd.C (Kd.int .i64) w63 (some ad226) y233.length y233 from by rw [Ny233.out]; exact Kd.C_take (m := ((ji44) : Int).toNat) ((Kd.R_reads' (Kd.R_after (ok := (fun k_ => some k_ ≠ (.slice Ao27 x5_2.length co27 : Value).ownBlock)) (by (with_reducible repeat (first | apply Kd.R_alloc | apply Kd.R_drewN | apply Kd.R_drew)); exact HO_12.out) hg hat)).2.2) KL58.out))
                                                    have n5_ := Aside0.mk ((show Kd.C (Kd.int .i64) w63 A59 y240.length y240 from by rw [Ny240.out, KA59.out]; exact Kd.C_drop (m := ((ji51) : Int).toNat) (c := co55) ((Kd.R_reads' (Kd.R_after (ok := (fun k_ => some k_ ≠ (.slice Ao27 x5_2.length co27 : Value).ownBlock)) (by (with_reducible repeat (first | apply Kd.R_alloc | apply Kd.R_drewN | apply Kd.R_drew)); exact HO_12.out) hg hat)).2.2) KL59.out ((Kd.R_reads' (Kd.R_after (ok := (fun k_ => some k_ ≠ (.slice Ao27 x5_2.length co27 : Value).ownBlock)) (by (with_reducible repeat (first | apply Kd.R_alloc | apply Kd.R_drewN | apply Kd.R_drew)); exact HO_12.out) hg hat)).2.1)))
                                                    have n6_ := Aside0.mk (ho)
                                                    clear HO_5
                                                    clear HO_12
                                                    clear HO229
                                                    clear HB
                                                    clear HR236
                                                    clear HR243
                                                    clear HO239
                                                    have HO_5 := n0_
                                                    have HO_12 := n1_
                                                    have HO229 := n2_
                                                    have HB := n3_
                                                    have HR236 := n4_
                                                    have HR243 := n5_
                                                    have HO246 := n6_
                                                    clear n0_ n1_ n2_ n3_ n4_ n5_ n6_
                                                    clear ho hb hg hat
                                                    refine hK.out _ _ trivial (fun hHeld => ?_)
                                                    clear hK K
                                                    refine norm_ (a' := ?_) ?_ ?_
                                                    rotate_left
                                                    · show Act.put _ (some 114) _ = _
                                                      simp only [Act.put, List.setIfInBounds_toArray, List.set_cons_zero, List.set_cons_succ, i64_w, i32_w]
                                                      rfl
                                                    refine pure_ (i := 10) (N := some 12) (v := ?_) (a' := ?_) #[true, true, true, true, true, true, true, true, true, true, true] rfl rfl (any_of HT_.out (by kernel_rfl)) (fun _ _ _ h => h) (Or.inl ⟨by rfl, ?_⟩) ?_ ?_
                                                    rotate_left
                                                    · intro w'
                                                      go_simp
                                                      with_reducible rfl
                                                    rotate_left
                                                    · simp only [Act.put, List.setIfInBounds_toArray, List.set_cons_zero, List.set_cons_succ, i64_w, i32_w]
                                                      rfl
                                                    refine done_ (done_of HT_.out (by kernel_rfl)) ?_
                                                    try go_wp2
                                                    go_roundg k4
                                                    case measure => have := HJ2.out; have := HK2.out; have := HK3.out; have := HK4.out; omega
                                                    case rel => exact ⟨(y227), (y244), (wrap64 (x81_4 + 1)), (by first | rfl | (simp; done) | (simp [*]; done)), H', ⟨by have := HJ2.out; have := HK2.out; have := HK3.out; have := HK4.out; omega⟩, ⟨by (with_reducible repeat (first | apply Kd.R_alloc | apply Kd.R_drewN | apply Kd.R_drew)); exact Kd.R_mono HO_5.out (fun _ hk => hk.2)⟩, ⟨by (with_reducible repeat (first | apply Kd.S_alloc | apply Kd.S_drewN | apply Kd.S_drew)); exact Kd.S_mono HO229.out (fun _ hk => ⟨hk.1.1, hk.2⟩)⟩, ⟨by (with_reducible repeat (first | apply Kd.R_alloc | apply Kd.R_drewN | apply Kd.R_drew)); exact Kd.R_mono HO246.out (fun _ hk => hk.1)⟩, ⟨by repeat (first | (with_reducible first | exact HB.out | apply below_alloc | apply pw_below_drewN | apply below_drew1) | exact HB.out)⟩⟩
                                                  · rw [if_neg c54] at H
                                                    exact absurd H (by simp)
                                                · rw [if_neg c53] at H
                                                  exact absurd H (by simp)
                                              · rw [if_neg c52] at H
                                                exact absurd H (by simp)
                                            · rw [if_neg c50] at H
                                              exact absurd H (by simp)
                                          · rw [if_neg c49] at H
                                            exact absurd H (by simp)
                                        · rw [if_neg c47] at H
                                          exact absurd H (by simp)
                                      · rw [if_neg c46] at H
                                        exact absurd H (by simp)
                                    · rw [if_neg c45] at H
                                      exact absurd H (by simp)
                              · rw [if_neg c39] at H
                                exact absurd H (by simp)
                            · rw [if_neg c38] at H
                              exact absurd H (by simp)
                          · rw [if_neg c37] at H
                            have c37b0 : decide (x81_4 < (x5_2.length : Int)) = false := decide_eq_false c37
                            clear c37
                            replace H := Option.bind_eq_some_iff.mp H
                            obtain ⟨t247, A640, H⟩ := H
                            replace H : (if (t247.length : Int) = (x9_4.length : Int) then (laws_FnMarkOrder.l3 k4 x5_2 x9_4 t247 (([] : List Int)) (t247.length : Int) 0) else (some false)) = some r := H
                            have A64 := Aside0.mk A640
                            clear A640
                            by_cases c65 : (t247.length : Int) = (x9_4.length : Int)
                            · rw [if_pos c65] at H
                              have c65b0 : ((t247.length : Int) == (x9_4.length : Int)) = true := beq_iff_eq.mpr c65
                              have c65b1 : ((t247.length : Int) != (x9_4.length : Int)) = false := bne_eq_false_iff_eq.mpr c65
                              have c65b2 : (t247.length == x9_4.length) = true := by first | simpa using c65 | (simp at c65 ⊢; omega)
                              clear c65
                              obtain ⟨y250, hy250⟩ : ∃ y_ : List Int, y_ = (([] : List Int)) := ⟨_, rfl⟩
                              replace H : (laws_FnMarkOrder.l3 k4 x5_2 x9_4 t247 y250 (t247.length : Int) 0) = some r := by first | (rw [hy250]; with_reducible exact H) | (have H2_ := (Option.bind_some _ _).symm.trans H; rw [hy250]; with_reducible exact H2_) | (have H2_ := (Option.bind_some _ _).symm.trans H; with_reducible exact H2_) | with_reducible exact H | (rw [hy250]; exact H) | exact H
                              have Ny250 := Aside0.mk hy250
                              clear hy250
                              have H' := Aside0.mk H
                              clear H
                              obtain ⟨Ao66, co66, eo66⟩ := Kd.S_slice HO_9.out
                              subst eo66
                              go_wp2_with (first | ((with_reducible refine gate_callee (f := 14) rfl ?_); refine goesL_ (some 117) rfl rfl Try.func14 (by kernel_rfl) rfl #[.slice Ao66 x9_4.length co66] rfl (by (try simp only [List.map_toArray, List.map_cons, List.map_nil]); first | done | rfl | (simp only [List.length_drop, List.length_take]; rfl)) ?_; (with_reducible refine (impl_RunMarks.calls _ _ x9_4 t247 _ ?side1 ?side2 A64.out).mono ?_); (case side1 => repeat (first | exact (Kd.S_reads' HO_9.out).2.2 | (with_reducible refine Kd.C_alloc ?_ _) | (with_reducible refine Kd.C_drewN ?_ _) | (with_reducible refine Kd.C_drew ?_))); (case side2 => exact (Kd.S_reads' HO_9.out).2.1); rintro e w67 ⟨v248, rfl, ho0, hb⟩; refine ⟨_, rfl, ?_⟩; have n0_ := Aside0.mk (Kd.R_below (by (with_reducible repeat (first | apply Kd.R_alloc | apply Kd.R_drewN | apply Kd.R_drew)); exact HO_5.out) hb); have n1_ := Aside0.mk (Kd.S_below (by (with_reducible repeat (first | apply Kd.S_alloc | apply Kd.S_drewN | apply Kd.S_drew)); exact HO_9.out) hb); have n2_ := Aside0.mk (Kd.R_below (by (with_reducible repeat (first | apply Kd.R_alloc | apply Kd.R_drewN | apply Kd.R_drew)); exact HO_12.out) hb); have n3_ := Aside0.mk (Kd.S_lower ho0 (below_size (by repeat (first | (with_reducible first | exact HB.out | apply below_alloc | apply pw_below_drewN | apply below_drew1) | exact HB.out)))); have n4_ := Aside0.mk (below_step (by repeat (first | (with_reducible first | exact HB.out | apply below_alloc | apply pw_below_drewN | apply below_drew1) | exact HB.out)) hb); clear HO_5; clear HO_9; clear HO_12; clear HB; have HO_5 := n0_; have HO_9 := n1_; have HO_12 := n2_; have HO249 := n3_; have HB := n4_; clear n0_ n1_ n2_ n3_ n4_; (try clear hb); (try clear hb2); (try clear hk); (try clear hi); (try clear ho0); obtain ⟨Ao68, co68, eo68⟩ := Kd.S_slice HO249.out; subst eo68) | ((with_reducible refine gate_dst (N := 123) rfl ?_); (try (refine gate_guard (by rfl) ?_; dsimp only)); refine Kd.R_lit (Kd.int .i64) _ 3 ?hg (N := 123) ?hd (xs := ([] : List Int)) (inner := []) (ok := fun _ => True) (okp := fun _ => True) ?hr ?hp (fun _ hk => hk) trivial (Below.refl _ _) (Nat.le_refl _) (by simp) ?_; (case hd => rfl); (case hg => rfl); (case hr => first | (go_simp; done) | (go_simp; rfl)); (case hp => exact (Reps.none _ _)); intro v251 w69 ho70 hb hg_ hnew_; clear hg_ hnew_; (first | rw [← Ny250.out] at ho70 | (simp only [Int.reduceToNat] at ho70; rw [← Ny250.out] at ho70)); have n0_ := Aside0.mk (Kd.R_elder' (by (with_reducible repeat (first | apply Kd.R_alloc | apply Kd.R_drewN | apply Kd.R_drew)); exact HO_5.out) (Kd.R_base ho70) hb); have n1_ := Aside0.mk (Kd.S_elder' (by (with_reducible repeat (first | apply Kd.S_alloc | apply Kd.S_drewN | apply Kd.S_drew)); exact HO_9.out) (Kd.R_base ho70) hb); have n2_ := Aside0.mk (Kd.R_elder' (by (with_reducible repeat (first | apply Kd.R_alloc | apply Kd.R_drewN | apply Kd.R_drew)); exact HO_12.out) (Kd.R_base ho70) hb); have n3_ := Aside0.mk (Kd.S_below (by (with_reducible repeat (first | apply Kd.S_alloc | apply Kd.S_drewN | apply Kd.S_drew)); exact HO249.out) hb); have n4_ := Aside0.mk (Kd.R_lower (Kd.R_new' (Kd.R_new' ho70 (Kd.R_lt (by (with_reducible repeat (first | apply Kd.R_alloc | apply Kd.R_drewN | apply Kd.R_drew)); exact HO_5.out))) (Kd.R_lt (by (with_reducible repeat (first | apply Kd.R_alloc | apply Kd.R_drewN | apply Kd.R_drew)); exact HO_12.out))) (below_size (by repeat (first | (with_reducible first | exact HB.out | apply below_alloc | apply pw_below_drewN | apply below_drew1) | exact HB.out)))); have n5_ := Aside0.mk (below_step (by repeat (first | (with_reducible first | exact HB.out | apply below_alloc | apply pw_below_drewN | apply below_drew1) | exact HB.out)) hb); clear HO_5; clear HO_9; clear HO_12; clear HO249; clear HB; have HO_5 := n0_; have HO_9 := n1_; have HO_12 := n2_; have HO249 := n3_; have HO252 := n4_; have HB := n5_; clear n0_ n1_ n2_ n3_ n4_ n5_; clear hb ho70))
                              go_loopg [16, 126] k4 (fun kq v16 v126 w' => ∃ (x16_5 : List Int) (x126_5 : Int), v126 = .int .i64 x126_5 ∧ Aside0 (laws_FnMarkOrder.l3 kq x5_2 x9_4 t247 x16_5 (t247.length : Int) x126_5 = some r) ∧ Aside0 (kq ≤ k4) ∧ Aside0 (Kd.R (Kd.int .i64) 3 w' w.heap.size (fun k_ => some k_ ≠ (v16 : Value).ownBlock) (.slice Ao27 x5_2.length co27) x5_2) ∧ Aside0 (Kd.S k31 31 w' w.heap.size (fun k_ => some k_ ≠ ((.slice Ao27 x5_2.length co27) : Value).ownBlock ∧ some k_ ≠ (v16 : Value).ownBlock) (.slice Ao66 x9_4.length co66) x9_4) ∧ Aside0 (Kd.S k34 34 w' w.heap.size (fun _ => True) (.slice Ao68 t247.length co68) t247) ∧ Aside0 (Kd.R (Kd.int .i64) 3 w' w.heap.size (fun k_ => some k_ ≠ ((.slice Ao27 x5_2.length co27) : Value).ownBlock) v16 x16_5) ∧ Aside0 (Below w.heap.size w w'))
                              case atStart => exact ⟨(y250), (0), (by first | rfl | (simp; done) | (simp [*]; done)), H', ⟨Nat.le_refl _⟩, ⟨by (with_reducible repeat (first | apply Kd.R_alloc | apply Kd.R_drewN | apply Kd.R_drew)); exact Kd.R_mono HO_5.out (fun _ hk => hk.2)⟩, ⟨by (with_reducible repeat (first | apply Kd.S_alloc | apply Kd.S_drewN | apply Kd.S_drew)); exact Kd.S_mono HO_9.out (fun _ hk => ⟨hk.1.1, hk.2⟩)⟩, ⟨by (with_reducible repeat (first | apply Kd.S_alloc | apply Kd.S_drewN | apply Kd.S_drew)); exact HO249.out⟩, ⟨by (with_reducible repeat (first | apply Kd.R_alloc | apply Kd.R_drewN | apply Kd.R_drew)); exact Kd.R_mono HO252.out (fun _ hk => hk.1.2)⟩, ⟨by repeat (first | (with_reducible first | exact HB.out | apply below_alloc | apply pw_below_drewN | apply below_drew1) | exact HB.out)⟩⟩
                              case round =>
                                clear H'
                                try clear c1
                                try clear c2
                                try clear p2
                                try clear q2
                                try clear hx2
                                try clear c3
                                try clear c4
                                try clear c4b0
                                try clear c4b1
                                try clear c5
                                try clear q5
                                try clear c6
                                try clear p6
                                try clear c8
                                try clear c8b0
                                try clear c9
                                try clear c9b0
                                try clear c10
                                try clear c10b0
                                try clear c11
                                try clear c11b0
                                try clear c13
                                try clear c14
                                try clear c14b0
                                try clear c17
                                try clear c17b0
                                try clear c17b1
                                try clear c20
                                try clear c20b0
                                try clear c20b1
                                try clear p20
                                try clear q20
                                try clear hx20
                                try clear p21
                                try clear q21
                                try clear hx21
                                try clear p22
                                try clear q22
                                try clear hx22
                                try clear c23
                                try clear c28
                                try clear c28b0
                                try clear c29
                                try clear c29b0
                                try clear c30
                                try clear c30b0
                                try clear c31
                                try clear c33
                                try clear c37
                                try clear c37b0
                                try clear c38
                                try clear c38b0
                                try clear c39
                                try clear c39b0
                                try clear c40
                                try clear c40b0
                                try clear c43
                                try clear c43b0
                                try clear c43b1
                                try clear c43b2
                                try clear c45
                                try clear c45b0
                                try clear c46
                                try clear c46b0
                                try clear c47
                                try clear c48
                                try clear c48b0
                                try clear c49
                                try clear c49b0
                                try clear c49b1
                                try clear c50
                                try clear c52
                                try clear c52b0
                                try clear c52b1
                                try clear c53
                                try clear c53b0
                                try clear c53b1
                                try clear c54
                                try clear q58
                                try clear c59
                                try clear q59
                                try clear p64
                                try clear c65
                                try clear c65b0
                                try clear c65b1
                                try clear c65b2
                                try clear hx202_0
                                try clear hx213_0
                                try clear hx223_0
                                try clear hx225_0
                                try clear hx226_0
                                try clear p2
                                try clear p20
                                try clear p202
                                try clear p21
                                try clear p213
                                try clear p223
                                try clear p225
                                try clear p226
                                try clear p6
                                try clear q059
                                try clear q2
                                try clear q20
                                try clear q202
                                try clear q21
                                try clear q213
                                try clear q223
                                try clear q225
                                try clear q226
                                try clear q58
                                try clear q59
                                obtain ⟨x16_5, x126_5, rfl, HA, HK5, HO_5, HO_9, HO_15, HO_16, HB⟩ := hrel
                                cases gk with
                                | zero => exact absurd HA.out (by simp [laws_FnMarkOrder.l3])
                                | succ k5 =>
                                  have H := HA.out
                                  clear HA
                                  simp only [laws_FnMarkOrder.l3] at H
                                  by_cases c71 : x126_5 < (t247.length : Int)
                                  · rw [if_pos c71] at H
                                    have c71b0 : decide (x126_5 < (t247.length : Int)) = true := decide_eq_true c71
                                    clear c71
                                    by_cases c72 : 0 ≤ x126_5
                                    · rw [if_pos c72] at H
                                      have c72b0 : decide (0 ≤ x126_5) = true := decide_eq_true c72
                                      clear c72
                                      by_cases c73 : x126_5 < (x9_4.length : Int)
                                      · rw [if_pos c73] at H
                                        have c73b0 : decide (x126_5 < (x9_4.length : Int)) = true := decide_eq_true c73
                                        clear c73
                                        have HC74 := Aside0.mk H
                                        clear H
                                        have p254 : 0 ≤ (x126_5 : Int) := of_decide_eq_true (by first | (with_reducible assumption) | assumption)
                                        have q254 : x126_5 < (x9_4.length : Int) := of_decide_eq_true (by first | (with_reducible assumption) | assumption)
                                        obtain ⟨ad254, A254_2, c254_2, e254, hx254_0, hx254_1, hx254_2, hl254_2, hi254_2⟩ := at_T31 (Kd.S_reads' HO_9.out).2.2 x126_5 p254 q254
                                        cases e254
                                        obtain ⟨ce254, hce254, hMe254, hcc254⟩ := Kd.S_get HO_9.out z31 x126_5 p254 (by first | exact q254 | exact of_decide_eq_true (by first | (with_reducible assumption) | assumption) | (have e_ := (Kd.S_reads' HO_9.out).1; omega))
                                        obtain ⟨ve254_2, rfl, ge254_2⟩ := k31_openM hMe254
                                        have hv254_2 := hcc254 2 _ rfl
                                        rw [add_field _ _ 2 (by omega)] at hv254_2
                                        replace hv254_2 := Option.some.inj (hv254_2.symm.trans hx254_2)
                                        rw [hv254_2] at ge254_2
                                        have HL254_2 := Aside0.mk (show Kd.R (Kd.int .i64) 3 _ _ _ _ ((rd_T31 x9_4 x126_5).f2) from ge254_2)
                                        clear hv254_2 ge254_2
                                        clear hcc254 hce254
                                        have HR254_2 := Aside0.mk hi254_2
                                        have HC254_2 := Aside0.mk hl254_2
                                        clear hi254_2 hl254_2
                                        replace p254 := eq_true p254
                                        replace q254 := eq_true q254
                                        go_upto_if 134 with (fail)
                                        go_cut [16] (fun v16 wc => ∃ (kq : Nat) (x16_73 : List Int), Aside0 (laws_FnMarkOrder.j5 kq x5_2 x9_4 t247 x16_73 x126_5 (t247.length : Int) x126_5 = some r) ∧ Aside0 (kq ≤ k5) ∧ Aside0 (Kd.R (Kd.int .i64) 3 wc w.heap.size (fun k_ => some k_ ≠ (v16 : Value).ownBlock) (.slice Ao27 x5_2.length co27) x5_2) ∧ Aside0 (Kd.S k31 31 wc w.heap.size (fun k_ => some k_ ≠ ((.slice Ao27 x5_2.length co27) : Value).ownBlock ∧ some k_ ≠ (v16 : Value).ownBlock) (.slice (some ad254) x9_4.length co66) x9_4) ∧ Aside0 (Kd.S k34 34 wc w.heap.size (fun _ => True) (.slice Ao68 t247.length co68) t247) ∧ Aside0 (Kd.R (Kd.int .i64) 3 wc w.heap.size (fun k_ => some k_ ≠ ((.slice Ao27 x5_2.length co27) : Value).ownBlock) v16 x16_73) ∧ Aside0 (Below w.heap.size w wc))
                                        case first =>
                                          have H := HC74.out
                                          clear HC74
                                          by_cases c75 : ((rd_T31 x9_4 x126_5).f0) = 2
                                          · rw [if_pos c75] at H
                                            have c75b0 : (((rd_T31 x9_4 x126_5).f0) == 2) = true := beq_iff_eq.mpr c75
                                            have c75b1 : (((rd_T31 x9_4 x126_5).f0) != 2) = false := bne_eq_false_iff_eq.mpr c75
                                            clear c75
                                            (first | rw [c75b0] | (simp only [i64_w, i32_w]; rw [c75b0]) | skip)
                                            by_cases c76 : x16_5.length < 17592186044416
                                            · rw [if_pos c76] at H
                                              have LMc76 := Aside0.mk c76
                                              clear c76
                                              obtain ⟨y256, hy256⟩ : ∃ y_ : List Int, y_ = (x16_5 ++ [(rd_T31 x9_4 x126_5).f1]) := ⟨_, rfl⟩
                                              replace H : (laws_FnMarkOrder.j5 k5 x5_2 x9_4 t247 y256 x126_5 (t247.length : Int) x126_5) = some r := by first | (rw [hy256]; with_reducible exact H) | (have H2_ := (Option.bind_some _ _).symm.trans H; rw [hy256]; with_reducible exact H2_) | (have H2_ := (Option.bind_some _ _).symm.trans H; with_reducible exact H2_) | with_reducible exact H | (rw [hy256]; exact H) | exact H
                                              have Ny256 := Aside0.mk hy256
                                              clear hy256
                                              have H' := Aside0.mk H
                                              clear H
                                              have p255 : 0 ≤ (x126_5 : Int) := of_decide_eq_true (by first | (with_reducible assumption) | assumption)
                                              have q255 : x126_5 < (x9_4.length : Int) := of_decide_eq_true (by first | (with_reducible assumption) | assumption)
                                              obtain ⟨ad255, A255_2, c255_2, e255, hx255_0, hx255_1, hx255_2, hl255_2, hi255_2⟩ := at_T31 (Kd.S_reads' HO_9.out).2.2 x126_5 p255 q255
                                              obtain rfl : ad254 = ad255 := (by injection e255)
                                              obtain ⟨ce255, hce255, hMe255, hcc255⟩ := Kd.S_get HO_9.out z31 x126_5 p255 (by first | exact q255 | exact of_decide_eq_true (by first | (with_reducible assumption) | assumption) | (have e_ := (Kd.S_reads' HO_9.out).1; omega))
                                              obtain ⟨ve255_2, rfl, ge255_2⟩ := k31_openM hMe255
                                              have hv255_2 := hcc255 2 _ rfl
                                              rw [add_field _ _ 2 (by omega)] at hv255_2
                                              replace hv255_2 := Option.some.inj (hv255_2.symm.trans hx255_2)
                                              rw [hv255_2] at ge255_2
                                              have HL255_2 := Aside0.mk (show Kd.R (Kd.int .i64) 3 _ _ _ _ ((rd_T31 x9_4 x126_5).f2) from ge255_2)
                                              clear hv255_2 ge255_2
                                              clear hcc255 hce255
                                              have HR255_2 := Aside0.mk hi255_2
                                              have HC255_2 := Aside0.mk hl255_2
                                              clear hi255_2 hl255_2
                                              replace p255 := eq_true p255
                                              replace q255 := eq_true q255
                                              go_wp2_with (first | ((with_reducible refine gate_builtin (b := .append) (xs := #[.tmp 135, .tmp 141]) rfl ?_); (try (refine gate_guard (by rfl) ?_; dsimp only)); at_builtin; refine Kd.R_append (Kd.int .i64) (w0 := w) w.heap.size rfl (.tmp 135) (.tmp 141) 29 3 (.int .i64 0) 8 rfl Try.underlying29 info3 rfl (by decide) (by omega) u16 x16_5 ((rd_T31 x9_4 x126_5).f1) [.int .i64 ((rd_T31 x9_4 x126_5).f1)] (fun k_ => some k_ ≠ (.slice Ao27 x5_2.length co27 : Value).ownBlock) (fun _ => False) rfl rfl ?aP (fun _ hk => hk.elim) ?aF ?aO ?aB ?aS ?aL ?_; (case aP => exact rfl); (case aB => exact (by repeat (first | (with_reducible first | exact HB.out | apply below_alloc | apply pw_below_drewN | apply below_drew1) | exact HB.out))); (case aF => exact (fun k_ hk => Kd.fresh' (Kd.R_lt (by (with_reducible repeat (first | apply Kd.R_alloc | apply Kd.R_drewN | apply Kd.R_drew)); exact HO_5.out)) k_ hk)); (case aO => exact (by (with_reducible repeat (first | apply Kd.R_alloc | apply Kd.R_drewN | apply Kd.R_drew)); exact HO_16.out)); (case aS => exact (below_size (by repeat (first | (with_reducible first | exact HB.out | apply below_alloc | apply pw_below_drewN | apply below_drew1) | exact HB.out)))); (case aL => have := LMc76.out; omega); intro v257 w77 ho hb hg hat; rw [← Ny256.out] at ho; have n0_ := Aside0.mk (Kd.R_after (ok := (fun _ => True)) (by (with_reducible repeat (first | apply Kd.R_alloc | apply Kd.R_drewN | apply Kd.R_drew)); exact Kd.R_mono HO_5.out (fun _ hk => ⟨trivial, hk⟩)) hg hat); have n1_ := Aside0.mk (Kd.S_after (ok := (fun k_ => some k_ ≠ (.slice Ao27 x5_2.length co27 : Value).ownBlock)) (by (with_reducible repeat (first | apply Kd.S_alloc | apply Kd.S_drewN | apply Kd.S_drew)); exact HO_9.out) hg hat); have n2_ := Aside0.mk (Kd.S_over' (by (with_reducible repeat (first | apply Kd.S_alloc | apply Kd.S_drewN | apply Kd.S_drew)); exact HO_15.out) (Kd.R_typed (by (with_reducible repeat (first | apply Kd.R_alloc | apply Kd.R_drewN | apply Kd.R_drew)); exact HO_16.out)) (by decide) hg); have n3_ := Aside0.mk (Kd.R_after (ok := (fun k_ => some k_ ≠ (.slice Ao27 x5_2.length co27 : Value).ownBlock ∧ some k_ ≠ (.slice (some ad254) x9_4.length co66 : Value).ownBlock)) (by (with_reducible repeat (first | apply Kd.R_alloc | apply Kd.R_drewN | apply Kd.R_drew)); exact Kd.R_mono HL254_2.out (fun _ hk => ⟨⟨hk.1.1, hk.2⟩, hk.1.2⟩)) hg hat); have n4_ := Aside0.mk (Kd.R_after (ok := (fun k_ => some k_ ≠ (.slice Ao27 x5_2.length co27 : Value).ownBlock ∧ some k_ ≠ (.slice (some ad254) x9_4.length co66 : Value).ownBlock)) (by (with_reducible repeat (first | apply Kd.R_alloc | apply Kd.R_drewN | apply Kd.R_drew)); exact Kd.R_mono HL255_2.out (fun _ hk => ⟨⟨hk.1.1, hk.2⟩, hk.1.2⟩)) hg hat); have n5_ := Aside0.mk (hb); have n6_ := Aside0.mk (ho); clear HO_5; clear HO_9; clear HO_15; clear HL254_2; clear HL255_2; clear HB; clear HO_16; have HO_5 := n0_; have HO_9 := n1_; have HO_15 := n2_; have HL254_2 := n3_; have HL255_2 := n4_; have HB := n5_; have HO258 := n6_; clear n0_ n1_ n2_ n3_ n4_ n5_ n6_; clear ho hb hg hat))
                                              go_meet
                                              case rel => exact ⟨_, (y256), H', ⟨by have := HJ2.out; have := HK2.out; have := HK3.out; have := HK4.out; have := HK5.out; first | omega | exact Nat.le_refl _⟩, ⟨by (with_reducible repeat (first | apply Kd.R_alloc | apply Kd.R_drewN | apply Kd.R_drew)); exact Kd.R_mono HO_5.out (fun _ hk => hk.2)⟩, ⟨by (with_reducible repeat (first | apply Kd.S_alloc | apply Kd.S_drewN | apply Kd.S_drew)); exact HO_9.out⟩, ⟨by (with_reducible repeat (first | apply Kd.S_alloc | apply Kd.S_drewN | apply Kd.S_drew)); exact HO_15.out⟩, ⟨by (with_reducible repeat (first | apply Kd.R_alloc | apply Kd.R_drewN | apply Kd.R_drew)); exact HO258.out⟩, ⟨by repeat (first | (with_reducible first | exact HB.out | apply below_alloc | apply pw_below_drewN | apply below_drew1) | exact HB.out)⟩⟩
                                            · rw [if_neg c76] at H
                                              exact absurd H (by simp)
                                          · rw [if_neg c75] at H
                                            have c75b0 : (((rd_T31 x9_4 x126_5).f0) == 2) = false := beq_eq_false_iff_ne.mpr c75
                                            have c75b1 : (((rd_T31 x9_4 x126_5).f0) != 2) = true := bne_iff_ne.mpr c75
                                            (first | rw [c75b0] | (simp only [i64_w, i32_w]; rw [c75b0]) | skip)
                                            have H' := Aside0.mk H
                                            clear H
                                            go_wp2
                                            go_meet
                                            case rel => exact ⟨_, (x16_5), H', ⟨by have := HJ2.out; have := HK2.out; have := HK3.out; have := HK4.out; have := HK5.out; first | omega | exact Nat.le_refl _⟩, ⟨by (with_reducible repeat (first | apply Kd.R_alloc | apply Kd.R_drewN | apply Kd.R_drew)); exact HO_5.out⟩, ⟨by (with_reducible repeat (first | apply Kd.S_alloc | apply Kd.S_drewN | apply Kd.S_drew)); exact HO_9.out⟩, ⟨by (with_reducible repeat (first | apply Kd.S_alloc | apply Kd.S_drewN | apply Kd.S_drew)); exact HO_15.out⟩, ⟨by (with_reducible repeat (first | apply Kd.R_alloc | apply Kd.R_drewN | apply Kd.R_drew)); exact HO_16.out⟩, ⟨by repeat (first | (with_reducible first | exact HB.out | apply below_alloc | apply pw_below_drewN | apply below_drew1) | exact HB.out)⟩⟩
                                        case rest =>
                                          clear HC74
                                          try clear c1
                                          try clear c2
                                          try clear p2
                                          try clear q2
                                          try clear hx2
                                          try clear c3
                                          try clear c4
                                          try clear c4b0
                                          try clear c4b1
                                          try clear c5
                                          try clear q5
                                          try clear c6
                                          try clear p6
                                          try clear c7
                                          try clear c8
                                          try clear c8b0
                                          try clear c9
                                          try clear c9b0
                                          try clear c10
                                          try clear c10b0
                                          try clear c11
                                          try clear c11b0
                                          try clear c13
                                          try clear c14
                                          try clear c14b0
                                          try clear c17
                                          try clear c17b0
                                          try clear c17b1
                                          try clear c20
                                          try clear c20b0
                                          try clear c20b1
                                          try clear p20
                                          try clear q20
                                          try clear hx20
                                          try clear p21
                                          try clear q21
                                          try clear hx21
                                          try clear p22
                                          try clear q22
                                          try clear hx22
                                          try clear c23
                                          try clear c25
                                          try clear p25
                                          try clear q25
                                          try clear hx25
                                          try clear c28
                                          try clear c28b0
                                          try clear c29
                                          try clear c29b0
                                          try clear c30
                                          try clear c30b0
                                          try clear c31
                                          try clear c33
                                          try clear c37
                                          try clear c37b0
                                          try clear c38
                                          try clear c38b0
                                          try clear c39
                                          try clear c39b0
                                          try clear c40
                                          try clear c40b0
                                          try clear c43
                                          try clear c43b0
                                          try clear c43b1
                                          try clear c43b2
                                          try clear c45
                                          try clear c45b0
                                          try clear c46
                                          try clear c46b0
                                          try clear c47
                                          try clear c48
                                          try clear c48b0
                                          try clear c49
                                          try clear c49b0
                                          try clear c49b1
                                          try clear c50
                                          try clear c52
                                          try clear c52b0
                                          try clear c52b1
                                          try clear c53
                                          try clear c53b0
                                          try clear c53b1
                                          try clear c54
                                          try clear q58
                                          try clear c59
                                          try clear q59
                                          try clear p64
                                          try clear c65
                                          try clear c65b0
                                          try clear c65b1
                                          try clear c65b2
                                          try clear c71
                                          try clear c71b0
                                          try clear c72
                                          try clear c72b0
                                          try clear c73
                                          try clear c73b0
                                          try clear c75
                                          try clear c75b0
                                          try clear c75b1
                                          try clear c76
                                          try clear hx202_0
                                          try clear hx213_0
                                          try clear hx223_0
                                          try clear hx225_0
                                          try clear hx226_0
                                          try clear hx254_0
                                          try clear hx254_1
                                          try clear hx254_2
                                          try clear hx255_0
                                          try clear hx255_1
                                          try clear hx255_2
                                          try clear p2
                                          try clear p20
                                          try clear p202
                                          try clear p21
                                          try clear p213
                                          try clear p22
                                          try clear p223
                                          try clear p225
                                          try clear p226
                                          try clear p254
                                          try clear p255
                                          try clear p6
                                          try clear p64
                                          try clear q059
                                          try clear q2
                                          try clear q20
                                          try clear q202
                                          try clear q21
                                          try clear q213
                                          try clear q22
                                          try clear q223
                                          try clear q225
                                          try clear q226
                                          try clear q254
                                          try clear q255
                                          try clear q5
                                          try clear q58
                                          try clear q59
                                          obtain ⟨kq, x16_73, HA, HJ73, HO_5, HO_9, HO_15, HO_16, HB⟩ := hcut
                                          cases kq with
                                          | zero => exact absurd HA.out (by simp [laws_FnMarkOrder.j5])
                                          | succ kj73 =>
                                            have H := HA.out
                                            clear HA
                                            simp only [laws_FnMarkOrder.j5] at H
                                            have H' := Aside0.mk H
                                            clear H
                                            go_wp2
                                            go_loopg [18, 19] kj73 (fun kq v18 v19 w' => ∃ (x18_7 : Int) (x19_7 : Int), v18 = .int .i64 x18_7 ∧ v19 = .int .i64 x19_7 ∧ Aside0 (laws_FnMarkOrder.l4 kq x5_2 x9_4 t247 x16_73 x126_5 x18_7 x19_7 (t247.length : Int) x126_5 = some r) ∧ Aside0 (kq ≤ kj73) ∧ Aside0 (Kd.R (Kd.int .i64) 3 w' w.heap.size (fun k_ => some k_ ≠ (u16 : Value).ownBlock) (.slice Ao27 x5_2.length co27) x5_2) ∧ Aside0 (Kd.S k31 31 w' w.heap.size (fun k_ => some k_ ≠ ((.slice Ao27 x5_2.length co27) : Value).ownBlock ∧ some k_ ≠ (u16 : Value).ownBlock) (.slice (some ad254) x9_4.length co66) x9_4) ∧ Aside0 (Kd.S k34 34 w' w.heap.size (fun _ => True) (.slice Ao68 t247.length co68) t247) ∧ Aside0 (Kd.R (Kd.int .i64) 3 w' w.heap.size (fun k_ => some k_ ≠ ((.slice Ao27 x5_2.length co27) : Value).ownBlock) u16 x16_73) ∧ Aside0 (Below w.heap.size w w'))
                                            case atStart => exact ⟨(0), (0), (by first | rfl | (simp; done) | (simp [*]; done)), (by first | rfl | (simp; done) | (simp [*]; done)), H', ⟨Nat.le_refl _⟩, ⟨by (with_reducible repeat (first | apply Kd.R_alloc | apply Kd.R_drewN | apply Kd.R_drew)); exact HO_5.out⟩, ⟨by (with_reducible repeat (first | apply Kd.S_alloc | apply Kd.S_drewN | apply Kd.S_drew)); exact HO_9.out⟩, ⟨by (with_reducible repeat (first | apply Kd.S_alloc | apply Kd.S_drewN | apply Kd.S_drew)); exact HO_15.out⟩, ⟨by (with_reducible repeat (first | apply Kd.R_alloc | apply Kd.R_drewN | apply Kd.R_drew)); exact HO_16.out⟩, ⟨by repeat (first | (with_reducible first | exact HB.out | apply below_alloc | apply pw_below_drewN | apply below_drew1) | exact HB.out)⟩⟩
                                            case round =>
                                              clear H'
                                              try clear c1
                                              try clear c2
                                              try clear p2
                                              try clear q2
                                              try clear hx2
                                              try clear c3
                                              try clear c4
                                              try clear c4b0
                                              try clear c4b1
                                              try clear c5
                                              try clear q5
                                              try clear c6
                                              try clear p6
                                              try clear c7
                                              try clear c8
                                              try clear c8b0
                                              try clear c9
                                              try clear c9b0
                                              try clear c10
                                              try clear c10b0
                                              try clear c11
                                              try clear c11b0
                                              try clear c13
                                              try clear c14
                                              try clear c14b0
                                              try clear c17
                                              try clear c17b0
                                              try clear c17b1
                                              try clear c20
                                              try clear c20b0
                                              try clear c20b1
                                              try clear p20
                                              try clear q20
                                              try clear hx20
                                              try clear p21
                                              try clear q21
                                              try clear hx21
                                              try clear p22
                                              try clear q22
                                              try clear hx22
                                              try clear c23
                                              try clear c25
                                              try clear p25
                                              try clear q25
                                              try clear hx25
                                              try clear c28
                                              try clear c28b0
                                              try clear c29
                                              try clear c29b0
                                              try clear c30
                                              try clear c30b0
                                              try clear c31
                                              try clear c33
                                              try clear c37
                                              try clear c37b0
                                              try clear c38
                                              try clear c38b0
                                              try clear c39
                                              try clear c39b0
                                              try clear c40
                                              try clear c40b0
                                              try clear c43
                                              try clear c43b0
                                              try clear c43b1
                                              try clear c43b2
                                              try clear c45
                                              try clear c45b0
                                              try clear c46
                                              try clear c46b0
                                              try clear c47
                                              try clear c48
                                              try clear c48b0
                                              try clear c49
                                              try clear c49b0
                                              try clear c49b1
                                              try clear c50
                                              try clear c52
                                              try clear c52b0
                                              try clear c52b1
                                              try clear c53
                                              try clear c53b0
                                              try clear c53b1
                                              try clear c54
                                              try clear q58
                                              try clear c59
                                              try clear q59
                                              try clear p64
                                              try clear c65
                                              try clear c65b0
                                              try clear c65b1
                                              try clear c65b2
                                              try clear c71
                                              try clear c71b0
                                              try clear c72
                                              try clear c72b0
                                              try clear c73
                                              try clear c73b0
                                              try clear c75
                                              try clear c75b0
                                              try clear c75b1
                                              try clear c76
                                              try clear hx202_0
                                              try clear hx213_0
                                              try clear hx223_0
                                              try clear hx225_0
                                              try clear hx226_0
                                              try clear hx254_0
                                              try clear hx254_1
                                              try clear hx254_2
                                              try clear hx255_0
                                              try clear hx255_1
                                              try clear hx255_2
                                              try clear p2
                                              try clear p20
                                              try clear p202
                                              try clear p21
                                              try clear p213
                                              try clear p22
                                              try clear p223
                                              try clear p225
                                              try clear p226
                                              try clear p25
                                              try clear p254
                                              try clear p255
                                              try clear p6
                                              try clear p64
                                              try clear q059
                                              try clear q2
                                              try clear q20
                                              try clear q202
                                              try clear q21
                                              try clear q213
                                              try clear q22
                                              try clear q223
                                              try clear q225
                                              try clear q226
                                              try clear q25
                                              try clear q254
                                              try clear q255
                                              try clear q5
                                              try clear q58
                                              try clear q59
                                              obtain ⟨x18_7, x19_7, rfl, rfl, HA, HK7, HO_5, HO_9, HO_15, HO_16, HB⟩ := hrel
                                              cases gk with
                                              | zero => exact absurd HA.out (by simp [laws_FnMarkOrder.l4])
                                              | succ k7 =>
                                                have H := HA.out
                                                clear HA
                                                simp only [laws_FnMarkOrder.l4] at H
                                                by_cases c78 : x19_7 < (x5_2.length : Int)
                                                · rw [if_pos c78] at H
                                                  have c78b0 : decide (x19_7 < (x5_2.length : Int)) = true := decide_eq_true c78
                                                  clear c78
                                                  by_cases c79 : 0 ≤ x19_7
                                                  · rw [if_pos c79] at H
                                                    have c79b0 : decide (0 ≤ x19_7) = true := decide_eq_true c79
                                                    clear c79
                                                    replace H := Option.bind_eq_some_iff.mp H
                                                    obtain ⟨t260, A800, H⟩ := H
                                                    replace H : (if t260 = true then (laws_FnMarkOrder.l4 k7 x5_2 x9_4 t247 x16_73 x126_5 (rd x5_2 x19_7) (wrap64 (x19_7 + 1)) (t247.length : Int) x126_5) else (if 0 ≤ x126_5 then (if x126_5 < (t247.length : Int) then (if ((rd_T34 t247 x126_5).f0) = x18_7 then (laws_FnMarkOrder.l3 k7 x5_2 x9_4 t247 x16_73 (t247.length : Int) (wrap64 (x126_5 + 1))) else (some false)) else (none)) else (none))) = some r := H
                                                    have A80 := Aside0.mk A800
                                                    clear A800
                                                    by_cases c81 : t260 = true
                                                    · subst c81
                                                      have H1 : (laws_FnMarkOrder.l4 k7 x5_2 x9_4 t247 x16_73 x126_5 (rd x5_2 x19_7) (wrap64 (x19_7 + 1)) (t247.length : Int) x126_5) = some r := by rw [if_pos rfl] at H; exact H
                                                      clear H
                                                      have H := H1
                                                      clear H1
                                                      have H' := Aside0.mk H
                                                      clear H
                                                      have p259 : 0 ≤ (x19_7 : Int) := of_decide_eq_true (by first | (with_reducible assumption) | assumption)
                                                      have q259 : x19_7 < (x5_2.length : Int) := of_decide_eq_true (by first | (with_reducible assumption) | assumption)
                                                      obtain ⟨ad259, e259, hx259_0⟩ := Kd.at_int (Kd.R_reads' HO_5.out).2.2 x19_7 p259 q259
                                                      cases e259
                                                      replace p259 := eq_true p259
                                                      replace q259 := eq_true q259
                                                      obtain ⟨Ao82, co82, eo82⟩ := Kd.R_slice HO_16.out
                                                      subst eo82
                                                      go_wp2_with (first | (go_at_call 17; (with_reducible refine (spec_Has.calls k7 _ _ x16_73 (rd x5_2 x19_7) true _ ?side1 ?side2 A80.out).mono ?_); (case side1 => repeat (first | exact (Kd.R_reads' HO_16.out).2.2 | (with_reducible refine Kd.C_alloc ?_ _) | (with_reducible refine Kd.C_drewN ?_ _) | (with_reducible refine Kd.C_drew ?_))); (case side2 => exact (Kd.R_reads' HO_16.out).2.1); rintro e w' ⟨rfl, ⟨nd, rfl⟩⟩; have p261 : 0 ≤ (x19_7 : Int) := of_decide_eq_true (by first | (with_reducible assumption) | assumption); have q261 : x19_7 < (x5_2.length : Int) := of_decide_eq_true (by first | (with_reducible assumption) | assumption); obtain ⟨ad261, e261, hx261_0⟩ := Kd.at_int (Kd.R_reads' HO_5.out).2.2 x19_7 p261 q261; obtain rfl : ad259 = ad261 := (by injection e261); replace p261 := eq_true p261; replace q261 := eq_true q261))
                                                      go_roundg k7
                                                      case measure => have := HJ2.out; have := HK2.out; have := HK3.out; have := HK4.out; have := HK5.out; have := HJ73.out; have := HK7.out; omega
                                                      case rel => exact ⟨(rd x5_2 x19_7), (wrap64 (x19_7 + 1)), (by first | rfl | (simp; done) | (simp [*]; done)), (by first | rfl | (simp; done) | (simp [*]; done)), H', ⟨by have := HJ2.out; have := HK2.out; have := HK3.out; have := HK4.out; have := HK5.out; have := HJ73.out; have := HK7.out; omega⟩, ⟨by (with_reducible repeat (first | apply Kd.R_alloc | apply Kd.R_drewN | apply Kd.R_drew)); exact HO_5.out⟩, ⟨by (with_reducible repeat (first | apply Kd.S_alloc | apply Kd.S_drewN | apply Kd.S_drew)); exact HO_9.out⟩, ⟨by (with_reducible repeat (first | apply Kd.S_alloc | apply Kd.S_drewN | apply Kd.S_drew)); exact HO_15.out⟩, ⟨by (with_reducible repeat (first | apply Kd.R_alloc | apply Kd.R_drewN | apply Kd.R_drew)); exact HO_16.out⟩, ⟨by repeat (first | (with_reducible first | exact HB.out | apply below_alloc | apply pw_below_drewN | apply below_drew1) | exact HB.out)⟩⟩
                                                    · replace c81 := Bool.eq_false_iff.mpr c81
                                                      subst c81
                                                      have H1 : (if 0 ≤ x126_5 then (if x126_5 < (t247.length : Int) then (if ((rd_T34 t247 x126_5).f0) = x18_7 then (laws_FnMarkOrder.l3 k7 x5_2 x9_4 t247 x16_73 (t247.length : Int) (wrap64 (x126_5 + 1))) else (some false)) else (none)) else (none)) = some r := by rw [if_neg (show ¬ (false = true) by decide)] at H; exact H
                                                      clear H
                                                      have H := H1
                                                      clear H1
                                                      by_cases c83 : 0 ≤ x126_5
                                                      · rw [if_pos c83] at H
                                                        have c83b0 : decide (0 ≤ x126_5) = true := decide_eq_true c83
                                                        clear c83
                                                        by_cases c84 : x126_5 < (t247.length : Int)
                                                        · rw [if_pos c84] at H
                                                          have c84b0 : decide (x126_5 < (t247.length : Int)) = true := decide_eq_true c84
                                                          clear c84
                                                          by_cases c85 : ((rd_T34 t247 x126_5).f0) = x18_7
                                                          · rw [if_pos c85] at H
                                                            have c85b0 : (((rd_T34 t247 x126_5).f0) == x18_7) = true := beq_iff_eq.mpr c85
                                                            have c85b1 : (((rd_T34 t247 x126_5).f0) != x18_7) = false := bne_eq_false_iff_eq.mpr c85
                                                            clear c85
                                                            have H' := Aside0.mk H
                                                            clear H
                                                            have p259 : 0 ≤ (x19_7 : Int) := of_decide_eq_true (by first | (with_reducible assumption) | assumption)
                                                            have q259 : x19_7 < (x5_2.length : Int) := of_decide_eq_true (by first | (with_reducible assumption) | assumption)
                                                            obtain ⟨ad259, e259, hx259_0⟩ := Kd.at_int (Kd.R_reads' HO_5.out).2.2 x19_7 p259 q259
                                                            cases e259
                                                            replace p259 := eq_true p259
                                                            replace q259 := eq_true q259
                                                            obtain ⟨Ao86, co86, eo86⟩ := Kd.R_slice HO_16.out
                                                            subst eo86
                                                            go_wp2_with (first | (go_at_call 17; (with_reducible refine (spec_Has.calls k7 _ _ x16_73 (rd x5_2 x19_7) false _ ?side1 ?side2 A80.out).mono ?_); (case side1 => repeat (first | exact (Kd.R_reads' HO_16.out).2.2 | (with_reducible refine Kd.C_alloc ?_ _) | (with_reducible refine Kd.C_drewN ?_ _) | (with_reducible refine Kd.C_drew ?_))); (case side2 => exact (Kd.R_reads' HO_16.out).2.1); rintro e w' ⟨rfl, ⟨nd, rfl⟩⟩; have p262 : 0 ≤ (x126_5 : Int) := of_decide_eq_true (by first | (with_reducible assumption) | assumption); have q262 : x126_5 < (t247.length : Int) := of_decide_eq_true (by first | (with_reducible assumption) | assumption); obtain ⟨ad262, A262_4, c262_4, e262, hx262_0, hx262_1, hx262_2, hx262_3, hx262_4, hl262_4, hi262_4⟩ := at_T34 (Kd.S_reads' HO_15.out).2.2 x126_5 p262 q262; cases e262; obtain ⟨ce262, hce262, hMe262, hcc262⟩ := Kd.S_get HO_15.out z34 x126_5 p262 (by first | exact q262 | exact of_decide_eq_true (by first | (with_reducible assumption) | assumption) | (have e_ := (Kd.S_reads' HO_15.out).1; omega)); obtain ⟨ve262_4, rfl, ge262_4⟩ := k34_openM hMe262; have hv262_4 := hcc262 4 _ rfl; rw [add_field _ _ 4 (by omega)] at hv262_4; replace hv262_4 := Option.some.inj (hv262_4.symm.trans hx262_4); rw [hv262_4] at ge262_4; have HL262_4 := Aside0.mk (show Kd.R Kd.bool 4 _ _ _ _ ((rd_T34 t247 x126_5).f4) from ge262_4); clear hv262_4 ge262_4; clear hcc262 hce262; have HR262_4 := Aside0.mk hi262_4; have HC262_4 := Aside0.mk hl262_4; clear hi262_4 hl262_4; replace p262 := eq_true p262; replace q262 := eq_true q262))
                                                            go_roundg k7
                                                            case measure => have := HJ2.out; have := HK2.out; have := HK3.out; have := HK4.out; have := HK5.out; have := HJ73.out; have := HK7.out; omega
                                                            case rel => exact ⟨(x16_73), (wrap64 (x126_5 + 1)), (by first | rfl | (simp; done) | (simp [*]; done)), H', ⟨by have := HJ2.out; have := HK2.out; have := HK3.out; have := HK4.out; have := HK5.out; have := HJ73.out; have := HK7.out; omega⟩, ⟨by (with_reducible repeat (first | apply Kd.R_alloc | apply Kd.R_drewN | apply Kd.R_drew)); exact HO_5.out⟩, ⟨by (with_reducible repeat (first | apply Kd.S_alloc | apply Kd.S_drewN | apply Kd.S_drew)); exact HO_9.out⟩, ⟨by (with_reducible repeat (first | apply Kd.S_alloc | apply Kd.S_drewN | apply Kd.S_drew)); exact HO_15.out⟩, ⟨by (with_reducible repeat (first | apply Kd.R_alloc | apply Kd.R_drewN | apply Kd.R_drew)); exact HO_16.out⟩, ⟨by repeat (first | (with_reducible first | exact HB.out | apply below_alloc | apply pw_below_drewN | apply below_drew1) | exact HB.out)⟩⟩
                                                          · rw [if_neg c85] at H
                                                            have c85b0 : (((rd_T34 t247 x126_5).f0) == x18_7) = false := beq_eq_false_iff_ne.mpr c85
                                                            have c85b1 : (((rd_T34 t247 x126_5).f0) != x18_7) = true := bne_iff_ne.mpr c85
                                                            obtain rfl := Option.some.inj H
                                                            have p259 : 0 ≤ (x19_7 : Int) := of_decide_eq_true (by first | (with_reducible assumption) | assumption)
                                                            have q259 : x19_7 < (x5_2.length : Int) := of_decide_eq_true (by first | (with_reducible assumption) | assumption)
                                                            obtain ⟨ad259, e259, hx259_0⟩ := Kd.at_int (Kd.R_reads' HO_5.out).2.2 x19_7 p259 q259
                                                            cases e259
                                                            replace p259 := eq_true p259
                                                            replace q259 := eq_true q259
                                                            obtain ⟨Ao87, co87, eo87⟩ := Kd.R_slice HO_16.out
                                                            subst eo87
                                                            go_wp2_with (first | (go_at_call 17; (with_reducible refine (spec_Has.calls k7 _ _ x16_73 (rd x5_2 x19_7) false _ ?side1 ?side2 A80.out).mono ?_); (case side1 => repeat (first | exact (Kd.R_reads' HO_16.out).2.2 | (with_reducible refine Kd.C_alloc ?_ _) | (with_reducible refine Kd.C_drewN ?_ _) | (with_reducible refine Kd.C_drew ?_))); (case side2 => exact (Kd.R_reads' HO_16.out).2.1); rintro e w' ⟨rfl, ⟨nd, rfl⟩⟩; have p262 : 0 ≤ (x126_5 : Int) := of_decide_eq_true (by first | (with_reducible assumption) | assumption); have q262 : x126_5 < (t247.length : Int) := of_decide_eq_true (by first | (with_reducible assumption) | assumption); obtain ⟨ad262, A262_4, c262_4, e262, hx262_0, hx262_1, hx262_2, hx262_3, hx262_4, hl262_4, hi262_4⟩ := at_T34 (Kd.S_reads' HO_15.out).2.2 x126_5 p262 q262; cases e262; obtain ⟨ce262, hce262, hMe262, hcc262⟩ := Kd.S_get HO_15.out z34 x126_5 p262 (by first | exact q262 | exact of_decide_eq_true (by first | (with_reducible assumption) | assumption) | (have e_ := (Kd.S_reads' HO_15.out).1; omega)); obtain ⟨ve262_4, rfl, ge262_4⟩ := k34_openM hMe262; have hv262_4 := hcc262 4 _ rfl; rw [add_field _ _ 4 (by omega)] at hv262_4; replace hv262_4 := Option.some.inj (hv262_4.symm.trans hx262_4); rw [hv262_4] at ge262_4; have HL262_4 := Aside0.mk (show Kd.R Kd.bool 4 _ _ _ _ ((rd_T34 t247 x126_5).f4) from ge262_4); clear hv262_4 ge262_4; clear hcc262 hce262; have HR262_4 := Aside0.mk hi262_4; have HC262_4 := Aside0.mk hl262_4; clear hi262_4 hl262_4; replace p262 := eq_true p262; replace q262 := eq_true q262))
                                                            go_ret
                                                            exact ⟨by first | rfl | (simp [errW_none, errW_some] <;> rfl) | (simp [*, errW_none, errW_some] <;> rfl), by repeat (first | (with_reducible first | exact HB.out | apply below_alloc | apply pw_below_drewN | apply below_drew1) | exact HB.out)⟩
                                                        · rw [if_neg c84] at H
                                                          exact absurd H (by simp)
                                                      · rw [if_neg c83] at H
                                                        exact absurd H (by simp)
                                                  · rw [if_neg c79] at H
                                                    exact absurd H (by simp)
                                                · rw [if_neg c78] at H
                                                  have c78b0 : decide (x19_7 < (x5_2.length : Int)) = false := decide_eq_false c78
                                                  clear c78
                                                  by_cases c88 : 0 ≤ x126_5
                                                  · rw [if_pos c88] at H
                                                    have c88b0 : decide (0 ≤ x126_5) = true := decide_eq_true c88
                                                    clear c88
                                                    by_cases c89 : x126_5 < (t247.length : Int)
                                                    · rw [if_pos c89] at H
                                                      have c89b0 : decide (x126_5 < (t247.length : Int)) = true := decide_eq_true c89
                                                      clear c89
                                                      by_cases c90 : ((rd_T34 t247 x126_5).f0) = x18_7
                                                      · rw [if_pos c90] at H
                                                        have c90b0 : (((rd_T34 t247 x126_5).f0) == x18_7) = true := beq_iff_eq.mpr c90
                                                        have c90b1 : (((rd_T34 t247 x126_5).f0) != x18_7) = false := bne_eq_false_iff_eq.mpr c90
                                                        clear c90
                                                        have H' := Aside0.mk H
                                                        clear H
                                                        have p263 : 0 ≤ (x126_5 : Int) := of_decide_eq_true (by first | (with_reducible assumption) | assumption)
                                                        have q263 : x126_5 < (t247.length : Int) := of_decide_eq_true (by first | (with_reducible assumption) | assumption)
                                                        obtain ⟨ad263, A263_4, c263_4, e263, hx263_0, hx263_1, hx263_2, hx263_3, hx263_4, hl263_4, hi263_4⟩ := at_T34 (Kd.S_reads' HO_15.out).2.2 x126_5 p263 q263
                                                        cases e263
                                                        obtain ⟨ce263, hce263, hMe263, hcc263⟩ := Kd.S_get HO_15.out z34 x126_5 p263 (by first | exact q263 | exact of_decide_eq_true (by first | (with_reducible assumption) | assumption) | (have e_ := (Kd.S_reads' HO_15.out).1; omega))
                                                        obtain ⟨ve263_4, rfl, ge263_4⟩ := k34_openM hMe263
                                                        have hv263_4 := hcc263 4 _ rfl
                                                        rw [add_field _ _ 4 (by omega)] at hv263_4
                                                        replace hv263_4 := Option.some.inj (hv263_4.symm.trans hx263_4)
                                                        rw [hv263_4] at ge263_4
                                                        have HL263_4 := Aside0.mk (show Kd.R Kd.bool 4 _ _ _ _ ((rd_T34 t247 x126_5).f4) from ge263_4)
                                                        clear hv263_4 ge263_4
                                                        clear hcc263 hce263
                                                        have HR263_4 := Aside0.mk hi263_4
                                                        have HC263_4 := Aside0.mk hl263_4
                                                        clear hi263_4 hl263_4
                                                        replace p263 := eq_true p263
                                                        replace q263 := eq_true q263
                                                        go_wp2
                                                        go_roundg k7
                                                        case measure => have := HJ2.out; have := HK2.out; have := HK3.out; have := HK4.out; have := HK5.out; have := HJ73.out; have := HK7.out; omega
                                                        case rel => exact ⟨(x16_73), (wrap64 (x126_5 + 1)), (by first | rfl | (simp; done) | (simp [*]; done)), H', ⟨by have := HJ2.out; have := HK2.out; have := HK3.out; have := HK4.out; have := HK5.out; have := HJ73.out; have := HK7.out; omega⟩, ⟨by (with_reducible repeat (first | apply Kd.R_alloc | apply Kd.R_drewN | apply Kd.R_drew)); exact HO_5.out⟩, ⟨by (with_reducible repeat (first | apply Kd.S_alloc | apply Kd.S_drewN | apply Kd.S_drew)); exact HO_9.out⟩, ⟨by (with_reducible repeat (first | apply Kd.S_alloc | apply Kd.S_drewN | apply Kd.S_drew)); exact HO_15.out⟩, ⟨by (with_reducible repeat (first | apply Kd.R_alloc | apply Kd.R_drewN | apply Kd.R_drew)); exact HO_16.out⟩, ⟨by repeat (first | (with_reducible first | exact HB.out | apply below_alloc | apply pw_below_drewN | apply below_drew1) | exact HB.out)⟩⟩
                                                      · rw [if_neg c90] at H
                                                        have c90b0 : (((rd_T34 t247 x126_5).f0) == x18_7) = false := beq_eq_false_iff_ne.mpr c90
                                                        have c90b1 : (((rd_T34 t247 x126_5).f0) != x18_7) = true := bne_iff_ne.mpr c90
                                                        obtain rfl := Option.some.inj H
                                                        have p263 : 0 ≤ (x126_5 : Int) := of_decide_eq_true (by first | (with_reducible assumption) | assumption)
                                                        have q263 : x126_5 < (t247.length : Int) := of_decide_eq_true (by first | (with_reducible assumption) | assumption)
                                                        obtain ⟨ad263, A263_4, c263_4, e263, hx263_0, hx263_1, hx263_2, hx263_3, hx263_4, hl263_4, hi263_4⟩ := at_T34 (Kd.S_reads' HO_15.out).2.2 x126_5 p263 q263
                                                        cases e263
                                                        obtain ⟨ce263, hce263, hMe263, hcc263⟩ := Kd.S_get HO_15.out z34 x126_5 p263 (by first | exact q263 | exact of_decide_eq_true (by first | (with_reducible assumption) | assumption) | (have e_ := (Kd.S_reads' HO_15.out).1; omega))
                                                        obtain ⟨ve263_4, rfl, ge263_4⟩ := k34_openM hMe263
                                                        have hv263_4 := hcc263 4 _ rfl
                                                        rw [add_field _ _ 4 (by omega)] at hv263_4
                                                        replace hv263_4 := Option.some.inj (hv263_4.symm.trans hx263_4)
                                                        rw [hv263_4] at ge263_4
                                                        have HL263_4 := Aside0.mk (show Kd.R Kd.bool 4 _ _ _ _ ((rd_T34 t247 x126_5).f4) from ge263_4)
                                                        clear hv263_4 ge263_4
                                                        clear hcc263 hce263
                                                        have HR263_4 := Aside0.mk hi263_4
                                                        have HC263_4 := Aside0.mk hl263_4
                                                        clear hi263_4 hl263_4
                                                        replace p263 := eq_true p263
                                                        replace q263 := eq_true q263
                                                        go_wp2
                                                        go_ret
                                                        exact ⟨by first | rfl | (simp [errW_none, errW_some] <;> rfl) | (simp [*, errW_none, errW_some] <;> rfl), by repeat (first | (with_reducible first | exact HB.out | apply below_alloc | apply pw_below_drewN | apply below_drew1) | exact HB.out)⟩
                                                    · rw [if_neg c89] at H
                                                      exact absurd H (by simp)
                                                  · rw [if_neg c88] at H
                                                    exact absurd H (by simp)
                                      · rw [if_neg c73] at H
                                        exact absurd H (by simp)
                                    · rw [if_neg c72] at H
                                      exact absurd H (by simp)
                                  · rw [if_neg c71] at H
                                    have c71b0 : decide (x126_5 < (t247.length : Int)) = false := decide_eq_false c71
                                    clear c71
                                    replace H := Option.bind_eq_some_iff.mp H
                                    obtain ⟨t253, A910, H⟩ := H
                                    replace H : (some t253) = some r := H
                                    have A91 := Aside0.mk A910
                                    clear A910
                                    obtain rfl := Option.some.inj H
                                    go_wp2_with (first | ((with_reducible refine gate_callee (f := 13) rfl ?_); refine goesL_ (some 169) rfl rfl Try.func13 (by kernel_rfl) rfl #[] rfl (by (try simp only [List.map_toArray, List.map_cons, List.map_nil]); first | done | rfl | (simp only [List.length_drop, List.length_take]; rfl)) ?_; (with_reducible refine (laws_marksWork.calls  t253 _ A91.out).mono ?_); rintro e w92 ⟨rfl, hb⟩; refine ⟨_, rfl, ?_⟩; have n0_ := Aside0.mk (Kd.R_below (by (with_reducible repeat (first | apply Kd.R_alloc | apply Kd.R_drewN | apply Kd.R_drew)); exact HO_5.out) hb); have n1_ := Aside0.mk (Kd.S_below (by (with_reducible repeat (first | apply Kd.S_alloc | apply Kd.S_drewN | apply Kd.S_drew)); exact HO_9.out) hb); have n2_ := Aside0.mk (Kd.S_below (by (with_reducible repeat (first | apply Kd.S_alloc | apply Kd.S_drewN | apply Kd.S_drew)); exact HO_15.out) hb); have n3_ := Aside0.mk (Kd.R_below (by (with_reducible repeat (first | apply Kd.R_alloc | apply Kd.R_drewN | apply Kd.R_drew)); exact HO_16.out) hb); have n4_ := Aside0.mk (below_step (by repeat (first | (with_reducible first | exact HB.out | apply below_alloc | apply pw_below_drewN | apply below_drew1) | exact HB.out)) hb); clear HO_5; clear HO_9; clear HO_15; clear HO_16; clear HB; have HO_5 := n0_; have HO_9 := n1_; have HO_15 := n2_; have HO_16 := n3_; have HB := n4_; clear n0_ n1_ n2_ n3_ n4_; (try clear hb); (try clear hb2); (try clear hk); (try clear hi)))
                                    go_ret
                                    exact ⟨by first | rfl | (simp [errW_none, errW_some] <;> rfl) | (simp [*, errW_none, errW_some] <;> rfl), by repeat (first | (with_reducible first | exact HB.out | apply below_alloc | apply pw_below_drewN | apply below_drew1) | exact HB.out)⟩
                            · rw [if_neg c65] at H
                              have c65b0 : ((t247.length : Int) == (x9_4.length : Int)) = false := beq_eq_false_iff_ne.mpr c65
                              have c65b1 : ((t247.length : Int) != (x9_4.length : Int)) = true := bne_iff_ne.mpr c65
                              have c65b2 : (t247.length == x9_4.length) = false := by first | simpa using c65 | (simp at c65 ⊢; omega)
                              obtain rfl := Option.some.inj H
                              obtain ⟨Ao93, co93, eo93⟩ := Kd.S_slice HO_9.out
                              subst eo93
                              go_wp2_with (first | ((with_reducible refine gate_callee (f := 14) rfl ?_); refine goesL_ (some 117) rfl rfl Try.func14 (by kernel_rfl) rfl #[.slice Ao93 x9_4.length co93] rfl (by (try simp only [List.map_toArray, List.map_cons, List.map_nil]); first | done | rfl | (simp only [List.length_drop, List.length_take]; rfl)) ?_; (with_reducible refine (impl_RunMarks.calls _ _ x9_4 t247 _ ?side1 ?side2 A64.out).mono ?_); (case side1 => repeat (first | exact (Kd.S_reads' HO_9.out).2.2 | (with_reducible refine Kd.C_alloc ?_ _) | (with_reducible refine Kd.C_drewN ?_ _) | (with_reducible refine Kd.C_drew ?_))); (case side2 => exact (Kd.S_reads' HO_9.out).2.1); rintro e w94 ⟨v248, rfl, ho0, hb⟩; refine ⟨_, rfl, ?_⟩; have n0_ := Aside0.mk (Kd.R_below (by (with_reducible repeat (first | apply Kd.R_alloc | apply Kd.R_drewN | apply Kd.R_drew)); exact HO_5.out) hb); have n1_ := Aside0.mk (Kd.S_below (by (with_reducible repeat (first | apply Kd.S_alloc | apply Kd.S_drewN | apply Kd.S_drew)); exact HO_9.out) hb); have n2_ := Aside0.mk (Kd.R_below (by (with_reducible repeat (first | apply Kd.R_alloc | apply Kd.R_drewN | apply Kd.R_drew)); exact HO_12.out) hb); have n3_ := Aside0.mk (Kd.S_lower ho0 (below_size (by repeat (first | (with_reducible first | exact HB.out | apply below_alloc | apply pw_below_drewN | apply below_drew1) | exact HB.out)))); have n4_ := Aside0.mk (below_step (by repeat (first | (with_reducible first | exact HB.out | apply below_alloc | apply pw_below_drewN | apply below_drew1) | exact HB.out)) hb); clear HO_5; clear HO_9; clear HO_12; clear HB; have HO_5 := n0_; have HO_9 := n1_; have HO_12 := n2_; have HO249 := n3_; have HB := n4_; clear n0_ n1_ n2_ n3_ n4_; (try clear hb); (try clear hb2); (try clear hk); (try clear hi); (try clear ho0); obtain ⟨Ao95, co95, eo95⟩ := Kd.S_slice HO249.out; subst eo95))
                              go_ret
                              exact ⟨by first | rfl | (simp [errW_none, errW_some] <;> rfl) | (simp [*, errW_none, errW_some] <;> rfl), by repeat (first | (with_reducible first | exact HB.out | apply below_alloc | apply pw_below_drewN | apply below_drew1) | exact HB.out)⟩
                    · rw [if_neg c33] at H
                      exact absurd H (by simp)

/-- THE ONE PURE STATEMENT of laws_FnMarkOrder: yours. -/
def laws_FnMarkOrder.Pure : Prop := ∀ (l0 : List Int) (l1 : List Int), l0.length ≤ maxLen → l0.length * 8 ≤ 140737488351232 → (∀ x ∈ l0, (Lit.int .i64 x).wf = true) → l1.length ≤ maxLen → l1.length * 8 ≤ 140737488351232 → (∀ x ∈ l1, (Lit.int .i64 x).wf = true) → ∃ k, laws_FnMarkOrder.f k l0 l1 = some true
theorem laws_FnMarkOrder.walk (P : laws_FnMarkOrder.Pure) (a0 : Option Addr) (len0 cap0 : Nat) (z0 : List Int) (a1 : Option Addr) (len1 cap1 : Nat) (z1 : List Int) (w : World) (w0 : (a0 = none ∧ len0 = 0 ∧ cap0 = 0 ∧ z0 = []) ∨ ∃ x, a0 = some x ∧ len0 ≤ cap0 ∧ cap0 ≤ maxLen ∧ z0.length = cap0 ∧ (∀ i, i < z0.length → w.cell? (x.add i) = some (.int .i64 (z0.getD i 0))) ∧ ∀ n ∈ z0, (Lit.int .i64 n).wf = true) (y0 : len0 * 8 ≤ 140737488351232) (w1 : (a1 = none ∧ len1 = 0 ∧ cap1 = 0 ∧ z1 = []) ∨ ∃ x, a1 = some x ∧ len1 ≤ cap1 ∧ cap1 ≤ maxLen ∧ z1.length = cap1 ∧ (∀ i, i < z1.length → w.cell? (x.add i) = some (.int .i64 (z1.getD i 0))) ∧ ∀ n ∈ z1, (Lit.int .i64 n).wf = true) (y1 : len1 * 8 ≤ 140737488351232) :
    Calls Try.prog 5 #[.slice a0 len0 cap0, .slice a1 len1 cap1] w fun e w' => e = .returned (.bool true) ∧ Below w.heap.size w w' := by
  obtain ⟨l0, rfl, hr0, hm0, hw0, hc0⟩ := ReadsInt.ofRowC w0
  obtain ⟨l1, rfl, hr1, hm1, hw1, hc1⟩ := ReadsInt.ofRowC w1
  obtain ⟨k, h⟩ := P l0 l1 hm0 y0 hw0 hm1 y1 hw1
  refine (laws_FnMarkOrder.calls k _ _ l0 _ _ l1 true w (Kd.C_of_reads (d := (0 : Int)) (h1 := fun _ => rfl) hr0) hc0 (Kd.C_of_reads (d := (0 : Int)) (h1 := fun _ => rfl) hr1) hc1 h).mono ?_
  rintro e w' ⟨rfl, hd⟩
  exact ⟨rfl, hd⟩

end Go.Proofs.Ytimakagmhikhfaa.M
