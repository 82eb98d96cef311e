/- As the print has them, turned for the tree: laws_zzFits5, laws_of. -/
import Derived.Test.YtnoolgbbpekomaaGreatDoorUb
namespace Go.Proofs.YtnoolgbbpekomaaGreatDoor.T
open Go.RowKit YtnoolgbbpekomaaGreatDoorW.PrintWords YtnoolgbbpekomaaGreatDoorW.PrintLast YtnoolgbbpekomaaGreatDoorW.PrintMore
attribute [local go_sem] max2_int min2_int max_two min_two max_three min_three max_four min_four   -- for this text's walks alone
set_option linter.unusedVariables false
set_option linter.unusedSimpArgs false
/-! ### laws_zzFits5: function 23 -/
def laws_zzFits5.l0 : Nat → List ByteArray → Int → Int → Option (Bool)
  | 0, _, _, _ => none
  | k + 1, x8, x9, x10 => if x10 < x9 then (if 0 ≤ x10 then (if x10 < (x8.length : Int) then (if ((rdOf ByteArray.empty x8 x10).size : Int) > 2147483647 then (some false) else (laws_zzFits5.l0 k x8 x9 (wrap64 (x10 + 1)))) else (none)) else (none)) else (some true)
def laws_zzFits5.f (k : Nat) (l0 : List ByteArray) : Option (Bool) := if (l0.length : Int) > 2147483647 then (some false) else (laws_zzFits5.l0 k l0 (l0.length : Int) 0)
theorem laws_zzFits5.mono_l : ∀ k, (∀ y0 y1 y2, LeO (laws_zzFits5.l0 k y0 y1 y2) (laws_zzFits5.l0 (k + 1) y0 y1 y2))
  | 0 => fun _ _ _ r h => by simp [laws_zzFits5.l0] at h
  | k + 1 => by
    have ih0 := laws_zzFits5.mono_l k
    · intro y0 y1 y2
      unfold laws_zzFits5.l0
      repeat' first
      | (with_reducible exact ih0 _ _ _)
      | (with_reducible exact LeO.refl _)
      | (with_reducible exact LeO.none _)
      | (with_reducible refine LeO.ite ?_ ?_)
      | (with_reducible refine LeO.bind ?_ (fun _ => ?_))
      | exact ih0 _ _ _
      | exact LeO.none _
      | refine LeO.ite ?_ ?_
      | refine LeO.bind ?_ (fun _ => ?_)
theorem laws_zzFits5.mono : ∀ a0 k, LeO (laws_zzFits5.f k a0) (laws_zzFits5.f (k + 1) a0) := by
  intro a0 k
  have ih0 := laws_zzFits5.mono_l k
  unfold laws_zzFits5.f
  repeat' first
      | (with_reducible exact ih0 _ _ _)
      | (with_reducible exact LeO.refl _)
      | (with_reducible exact LeO.none _)
      | (with_reducible refine LeO.ite ?_ ?_)
      | (with_reducible refine LeO.bind ?_ (fun _ => ?_))
      | exact ih0 _ _ _
      | exact LeO.none _
      | refine LeO.ite ?_ ?_
      | refine LeO.bind ?_ (fun _ => ?_)
set_option maxHeartbeats 8000000 in
set_option maxRecDepth 100000 in
theorem laws_zzFits5.calls (k : Nat) (A0 : Option Addr) (c0 : Nat) (l0 : List ByteArray) (r : Bool) (w : World) (hr0 : Kd.C Kd.string w A0 l0.length l0) (hc0 : l0.length ≤ c0) (h : laws_zzFits5.f k l0 = some r) :
    Calls Tryz.prog 23 #[.slice A0 l0.length c0] w fun e w' => e = .returned (.bool r) ∧ Drawn0 w w' := by
  have HR0 := Aside0.mk hr0
  have HC0 := Aside0.mk hc0
  clear hr0 hc0
  have H : (if (l0.length : Int) > 2147483647 then (some false) else (laws_zzFits5.l0 k l0 (l0.length : Int) 0)) = some r := h
  clear h
  by_cases c2 : (l0.length : Int) > 2147483647
  · rw [if_pos c2] at H
    have c2b0 : decide (2147483647 < (l0.length : Int)) = true := decide_eq_true c2
    have c2b1 : decide (2147483647 < l0.length) = true := decide_eq_true (by omega)
    clear c2
    obtain rfl := Option.some.inj H
    go_enter Tryz.func23, Tryz.ntmps23
    go_wp2
    go_ret
    exact ⟨by first | rfl | (simp; done) | (simp [*]; done), by repeat (first | exact Drawn0.refl _ | apply Drawn0.step)⟩
  · rw [if_neg c2] at H
    have c2b0 : decide (2147483647 < (l0.length : Int)) = false := decide_eq_false c2
    have c2b1 : decide (2147483647 < l0.length) = false := decide_eq_false (by omega)
    clear c2
    have H' := Aside0.mk H
    clear H
    go_enter Tryz.func23, Tryz.ntmps23
    go_wp2
    go_loopg [10] k (fun kq v10 w' => ∃ (x10_1 : Int), v10 = .int .i64 x10_1 ∧ Aside0 (laws_zzFits5.l0 kq l0 (l0.length : Int) x10_1 = some r) ∧ Aside0 (kq ≤ k) ∧ Drawn0 w w')
    case atStart => exact ⟨(0), (by first | rfl | (simp; done) | (simp [*]; done)), H', ⟨Nat.le_refl _⟩, by repeat (first | exact Drawn0.refl _ | apply Drawn0.step)⟩
    case round =>
      clear H'
      try clear c2
      try clear c2b0
      try clear c2b1
      try clear p2
      obtain ⟨x10_1, rfl, HA, HK1, ⟨m1, rfl⟩⟩ := hrel
      cases gk with
      | zero => exact absurd HA.out (by simp [laws_zzFits5.l0])
      | succ k1 =>
        have H := HA.out
        clear HA
        simp only [laws_zzFits5.l0] at H
        by_cases c3 : x10_1 < (l0.length : Int)
        · rw [if_pos c3] at H
          have c3b0 : decide (x10_1 < (l0.length : Int)) = true := decide_eq_true c3
          clear c3
          by_cases c4 : 0 ≤ x10_1
          · rw [if_pos c4] at H
            have c4b0 : decide (0 ≤ x10_1) = true := decide_eq_true c4
            clear c4
            by_cases c5 : x10_1 < (l0.length : Int)
            · rw [if_pos c5] at H
              have c5b0 : decide (x10_1 < (l0.length : Int)) = true := decide_eq_true c5
              clear c5
              by_cases c6 : ((rdOf ByteArray.empty l0 x10_1).size : Int) > 2147483647
              · rw [if_pos c6] at H
                have c6b0 : decide (2147483647 < ((rdOf ByteArray.empty l0 x10_1).size : Int)) = true := decide_eq_true c6
                have c6b1 : decide (2147483647 < (rdOf ByteArray.empty l0 x10_1).size) = true := decide_eq_true (by omega)
                clear c6
                obtain rfl := Option.some.inj H
                have p220 : 0 ≤ (x10_1 : Int) := of_decide_eq_true (by first | (with_reducible assumption) | assumption)
                have q220 : x10_1 < (l0.length : Int) := of_decide_eq_true (by first | (with_reducible assumption) | assumption)
                obtain ⟨ad220, e220, hx220_0⟩ := Kd.at_string HR0.out x10_1 p220 q220
                cases e220
                replace p220 := eq_true p220
                replace q220 := eq_true q220
                go_wp2
                go_ret
                exact ⟨by first | rfl | (simp; done) | (simp [*]; done), by repeat (first | exact Drawn0.refl _ | apply Drawn0.step)⟩
              · rw [if_neg c6] at H
                have c6b0 : decide (2147483647 < ((rdOf ByteArray.empty l0 x10_1).size : Int)) = false := decide_eq_false c6
                have c6b1 : decide (2147483647 < (rdOf ByteArray.empty l0 x10_1).size) = false := decide_eq_false (by omega)
                clear c6
                have H' := Aside0.mk H
                clear H
                have p220 : 0 ≤ (x10_1 : Int) := of_decide_eq_true (by first | (with_reducible assumption) | assumption)
                have q220 : x10_1 < (l0.length : Int) := of_decide_eq_true (by first | (with_reducible assumption) | assumption)
                obtain ⟨ad220, e220, hx220_0⟩ := Kd.at_string HR0.out x10_1 p220 q220
                cases e220
                replace p220 := eq_true p220
                replace q220 := eq_true q220
                go_wp2
                go_roundg k1
                case measure => have := HK1.out; omega
                case rel => exact ⟨(wrap64 (x10_1 + 1)), (by first | rfl | (simp; done) | (simp [*]; done)), H', ⟨by have := HK1.out; omega⟩, by repeat (first | exact Drawn0.refl _ | apply Drawn0.step)⟩
            · rw [if_neg c5] at H
              exact absurd H (by simp)
          · rw [if_neg c4] at H
            exact absurd H (by simp)
        · rw [if_neg c3] at H
          have c3b0 : decide (x10_1 < (l0.length : Int)) = false := decide_eq_false c3
          clear c3
          obtain rfl := Option.some.inj H
          go_wp2
          go_ret
          exact ⟨by first | rfl | (simp; done) | (simp [*]; done), by repeat (first | exact Drawn0.refl _ | apply Drawn0.step)⟩
/-! ### laws_of: function 26 -/
noncomputable def laws_of.f (k : Nat) (l0 : List (S42)) (l1 : List ByteArray) : Option ((List (List Int))) := (spec_Turns.f k l0 false false false).bind fun t250 => ((impl_RunTrie.f t250 l1).bind fun bt253 => (some bt253.2.1))
theorem laws_of.mono : ∀ a0 a1 k, LeO (laws_of.f k a0 a1) (laws_of.f (k + 1) a0 a1) := by
  intro a0 a1 k
  unfold laws_of.f
  repeat' first
      | (with_reducible exact spec_Turns.mono _ _ _ _ _)
      | (with_reducible exact LeO.refl _)
      | (with_reducible exact LeO.none _)
      | (with_reducible refine LeO.ite ?_ ?_)
      | (with_reducible refine LeO.bind ?_ (fun _ => ?_))
      | exact spec_Turns.mono _ _ _ _ _
      | exact LeO.none _
      | refine LeO.ite ?_ ?_
      | refine LeO.bind ?_ (fun _ => ?_)
set_option maxHeartbeats 8000000 in
set_option maxRecDepth 100000 in
theorem laws_of.calls (k : Nat) (A0 : Option Addr) (c0 : Nat) (l0 : List (S42)) (A1 : Option Addr) (c1 : Nat) (l1 : List ByteArray) (r : List (List Int)) (w : World) (hr0 : Kd.C k42 w A0 l0.length l0) (hc0 : l0.length ≤ c0) (hr1 : Kd.C Kd.string w A1 l1.length l1) (hc1 : l1.length ≤ c1) (hl : Pi.Laid w) (h : laws_of.f k l0 l1 = some r) :
    Calls Tryz.prog 26 #[.slice A0 l0.length c0, .slice A1 l1.length c1] w fun e w' => ∃ v0_ : Value, e = .returned (v0_) ∧ Kd.S (Kd.slice 3 (Kd.int .i64)) 44 w' w.heap.size (fun _ => True) v0_ r ∧ Below w.heap.size w w' := by
  have HR0 := Aside0.mk hr0
  have HC0 := Aside0.mk hc0
  clear hr0 hc0
  have HR1 := Aside0.mk hr1
  have HC1 := Aside0.mk hc1
  clear hr1 hc1
  have HLA := Aside0.mk hl
  clear hl
  have HB := Aside0.mk (Below.refl w.heap.size w)
  have H : ((spec_Turns.f k l0 false false false).bind fun t250 => ((impl_RunTrie.f t250 l1).bind fun bt253 => (some bt253.2.1))) = some r := h
  clear h
  replace H := Option.bind_eq_some_iff.mp H
  obtain ⟨t250, A30, H⟩ := H
  replace H : ((impl_RunTrie.f t250 l1).bind fun bt253 => (some bt253.2.1)) = some r := H
  have A3 := Aside0.mk A30
  clear A30
  replace H := Option.bind_eq_some_iff.mp H
  obtain ⟨⟨t253, t254, t255⟩, A40, H⟩ := H
  replace H : (some t254) = some r := H
  have A4 := Aside0.mk A40
  clear A40
  obtain rfl := Option.some.inj H
  go_enter Tryz.func26, Tryz.ntmps26
  go_wp2_with (first | ((with_reducible refine gate_callee (f := 33) rfl ?_); refine goesL_ (some 10) rfl rfl Tryz.func33 (by kernel_rfl) rfl #[.slice A0 l0.length c0, .bool false, .bool false, .bool false] rfl (by (try simp only [List.map_toArray, List.map_cons, List.map_nil]); first | done | rfl | (simp only [List.length_drop, List.length_take]; rfl)) ?_; (with_reducible refine (spec_Turns.calls k _ _ l0 false false false t250 _ ?side1 ?side2 A3.out).mono ?_); (case side1 => exact XC HR0.out); (case side2 => exact HC0.out); rintro e w5 ⟨v251, rfl, ho0, hb⟩; refine ⟨_, rfl, ?_⟩; have n0_ := Aside0.mk (Kd.R_lower ho0 (below_size (Xb HB.out))); have n1_ := Aside0.mk (below_step (Xb HB.out) hb); clear HB; have HO252 := n0_; have HB := n1_; clear n0_ n1_; (try clear hb); (try clear hb2); (try clear hk); (try clear hi); (try clear ho0); obtain ⟨Ao6, co6, eo6⟩ := Kd.R_slice HO252.out; subst eo6) | ((with_reducible refine gate_callee (f := 32) rfl ?_); refine goesL_ (some 12) rfl rfl Tryz.func32 (by kernel_rfl) rfl #[.slice Ao6 t250.length co6, .slice A1 l1.length c1] rfl (by (try simp only [List.map_toArray, List.map_cons, List.map_nil]); first | done | rfl | (simp only [List.length_drop, List.length_take]; rfl)) ?_; (with_reducible refine (impl_RunTrie.calls _ _ t250 _ _ l1 t253 t254 t255 _ ?side1 ?side2 ?side3 ?side4 ?sidel A4.out).mono ?_); (case sidel => exact Pi.Laid.below HLA.out (Xb HB.out)); (case side1 => exact XC (Kd.R_reads' HO252.out).2.2); (case side2 => exact (Kd.R_reads' HO252.out).2.1); (case side3 => exact XC (Kd.C_below HR1.out HB.out)); (case side4 => exact HC1.out); rintro e w7 ⟨v256, v258, rfl, ho0, ho1, hb⟩; refine ⟨_, rfl, ?_⟩; have n0_ := Aside0.mk (Kd.R_below (XR HO252.out) hb); have n1_ := Aside0.mk (Kd.R_lower ho0 (below_size (Xb HB.out))); have n2_ := Aside0.mk (Kd.S_lower ho1 (below_size (Xb HB.out))); have n3_ := Aside0.mk (below_step (Xb HB.out) hb); clear HO252; clear HB; have HO252 := n0_; have HO257 := n1_; have HO259 := n2_; have HB := n3_; clear n0_ n1_ n2_ n3_; (try clear hb); (try clear hb2); (try clear hk); (try clear hi); (try clear ho0); (try clear ho1)))
  go_ret
  exact ⟨_, by first | rfl | (simp [errW_none, errW_some] <;> rfl) | (simp [*, errW_none, errW_some] <;> rfl), by (with_reducible repeat (first | apply Kd.S_alloc | apply Kd.S_drewN | apply Kd.S_drew)); exact HO259.out, by repeat (first | (with_reducible first | exact HB.out | apply below_alloc | apply pw_below_drewN | apply below_drew1) | exact HB.out)⟩
end Go.Proofs.YtnoolgbbpekomaaGreatDoor.T
