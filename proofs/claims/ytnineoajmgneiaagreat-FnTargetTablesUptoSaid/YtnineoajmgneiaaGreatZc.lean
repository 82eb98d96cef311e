/- Printed: lists of numbers; the numbers at a key's end. Printed: what the statements ask of tables and options. Printed: the wanted sizes; steps. -/
import Derived.Test.YtnineoajmgneiaaGreatZa
namespace Go.Proofs.YtnineoajmgneiaaGreat.L
open Go.RowKit Go.Proofs.YtnineoajmgneiaaGreatW.PrintWords Go.Proofs.YtnineoajmgneiaaGreatW.PrintLast Go.Proofs.YtnineoajmgneiaaGreatW.PrintMore
attribute [local go_sem] max2_int min2_int max_two min_two max_three min_three max_four min_four   -- for this text's walks alone
set_option linter.unusedVariables false
set_option linter.unusedSimpArgs false

/-! ### impl_ints_int64: function 58 -/
def impl_ints_int64.l0 : Nat → List Int → List Int → Int → Int → Option (List Int)
 | 0, _, _, _, _ => none
 | k + 1, x3, x7, x8, x9 => if x9 < x8 then (if 0 ≤ x9 then (if x9 < (x7.length : Int) then (if x3.length < 17592186044416 then (impl_ints_int64.l0 k (x3 ++ [rd x7 x9]) x7 x8 (wrap64 (x9 + 1))) else (none)) else (none)) else (none)) else (some x3)
def impl_ints_int64.f (k : Nat) (l0 : List Int) : Option (List Int) := impl_ints_int64.l0 k (([] : List Int)) l0 (l0.length : Int) 0
set_option maxHeartbeats 8000000 in
set_option maxRecDepth 100000 in
theorem impl_ints_int64.calls (k : Nat) (A0 : Option Addr) (c0 : Nat) (l0 : List Int) (r : List Int) (w : World) (hr0 : Kd.C (Kd.int .i64) w A0 l0.length l0) (hc0 : l0.length ≤ c0) (h : impl_ints_int64.f k l0 = some r) :
  Calls Tryz.prog 58 #[.slice A0 l0.length c0] w fun e w' => ∃ v0_ : Value, e = .returned (v0_) ∧ Kd.R (Kd.int .i64) 3 w' w.heap.size (fun _ => True) v0_ r ∧ Below w.heap.size w w' := by
 have HR0 := Aside0.mk hr0
 have HC0 := Aside0.mk hc0
 clear hr0 hc0
 have HB := Aside0.mk (Below.refl w.heap.size w)
 have H : (impl_ints_int64.l0 k (([] : List Int)) l0 (l0.length : Int) 0) = some r := h
 clear h
 obtain ⟨y139, hy139⟩ : ∃ y_ : List Int, y_ = (([] : List Int)) := ⟨_, rfl⟩
 replace H : (impl_ints_int64.l0 k y139 l0 (l0.length : Int) 0) = some r := by first | (rw [hy139]; with_reducible exact H) | (have H2_ := (Option.bind_some _ _).symm.trans H; rw [hy139]; with_reducible exact H2_) | (have H2_ := (Option.bind_some _ _).symm.trans H; with_reducible exact H2_) | with_reducible exact H | (rw [hy139]; exact H) | exact H
 have Ny139 := Aside0.mk hy139
 clear hy139
 have H' := Aside0.mk H
 clear H
 go_enter Tryz.func58, Tryz.ntmps58
 go_wp2_with (first | ((with_reducible refine gate_dst (N := 6) rfl ?_); refine Kd.R_lit (Kd.int .i64) _ 3 ?hg (N := 6) ?hd (xs := ([] : List Int)) (inner := []) (ok := fun _ => True) (okp := fun _ => True) ?hr ?hp (fun _ hk => hk) trivial (Below.refl _ _) (Nat.le_refl _) (by simp) ?_; (case hd => rfl); (case hg => rfl); (case hr => first | (go_simp; done) | (go_simp; rfl)); (case hp => exact (Reps.none _ _)); intro v140 w2 ho3 hb hg_ hnew_; clear hg_ hnew_; (first | rw [← Ny139.out] at ho3 | (simp only [Int.reduceToNat] at ho3; rw [← Ny139.out] at ho3)); have n0_ := Aside0.mk (Kd.R_lower ho3 (below_size (by repeat (first | (with_reducible first | exact HB.out | apply below_alloc | apply pw_below_drewN | apply below_drew1) | exact HB.out)))); have n1_ := Aside0.mk (below_step (by repeat (first | (with_reducible first | exact HB.out | apply below_alloc | apply pw_below_drewN | apply below_drew1) | exact HB.out)) hb); clear HB; have HO141 := n0_; have HB := n1_; clear n0_ n1_; clear hb ho3))
 go_loopg [3, 9] k (fun kq v3 v9 w' => ∃ (x3_1 : List Int) (x9_1 : Int), v9 = .int .i64 x9_1 ∧ Aside0 (impl_ints_int64.l0 kq x3_1 l0 (l0.length : Int) x9_1 = some r) ∧ Aside0 (kq ≤ k) ∧ Aside0 (Kd.R (Kd.int .i64) 3 w' w.heap.size (fun _ => True) v3 x3_1) ∧ Aside0 (Below w.heap.size w w'))
 case atStart => exact ⟨(y139), (0), (by first | rfl | (simp; done) | (simp [*]; done)), H', ⟨Nat.le_refl _⟩, ⟨by (with_reducible repeat (first | apply Kd.R_alloc | apply Kd.R_drewN | apply Kd.R_drew)); exact HO141.out⟩, ⟨by repeat (first | (with_reducible first | exact HB.out | apply below_alloc | apply pw_below_drewN | apply below_drew1) | exact HB.out)⟩⟩
 case round =>
  clear H'
  try clear p2
  obtain ⟨x3_1, x9_1, rfl, HA, HK1, HO_3, HB⟩ := hrel
  cases gk with
  | zero => exact absurd HA.out (by simp [impl_ints_int64.l0])
  | succ k1 =>
   have H := HA.out
   clear HA
   simp only [impl_ints_int64.l0] at H
   by_cases c4 : x9_1 < (l0.length : Int)
   ·rw [if_pos c4] at H
    have c4b0 : decide (x9_1 < (l0.length : Int)) = true := decide_eq_true c4
    clear c4
    by_cases c5 : 0 ≤ x9_1
    ·rw [if_pos c5] at H
     have c5b0 : decide (0 ≤ x9_1) = true := decide_eq_true c5
     clear c5
     by_cases c6 : x9_1 < (l0.length : Int)
     ·rw [if_pos c6] at H
      have c6b0 : decide (x9_1 < (l0.length : Int)) = true := decide_eq_true c6
      clear c6
      by_cases c7 : x3_1.length < 17592186044416
      ·rw [if_pos c7] at H
       have LMc7 := Aside0.mk c7
       clear c7
       obtain ⟨y143, hy143⟩ : ∃ y_ : List Int, y_ = (x3_1 ++ [rd l0 x9_1]) := ⟨_, rfl⟩
       replace H : (impl_ints_int64.l0 k1 y143 l0 (l0.length : Int) (wrap64 (x9_1 + 1))) = some r := by first | (rw [hy143]; with_reducible exact H) | (have H2_ := (Option.bind_some _ _).symm.trans H; rw [hy143]; with_reducible exact H2_) | (have H2_ := (Option.bind_some _ _).symm.trans H; with_reducible exact H2_) | with_reducible exact H | (rw [hy143]; exact H) | exact H
       have Ny143 := Aside0.mk hy143
       clear hy143
       have H' := Aside0.mk H
       clear H
       have p142 : 0 ≤ (x9_1 : Int) := of_decide_eq_true (by first | (with_reducible assumption) | assumption)
       have q142 : x9_1 < (l0.length : Int) := of_decide_eq_true (by first | (with_reducible assumption) | assumption)
       obtain ⟨ad142, e142, hx142_0⟩ := Kd.at_int HR0.out x9_1 p142 q142
       cases e142
       replace hx142_0 := (HB.out.cell (World.block_lt_of_cell? w _ hx142_0)).trans hx142_0
       replace p142 := eq_true p142
       replace q142 := eq_true q142
       go_wp2_with (first | ((with_reducible refine gate_builtin (b := .append) (xs := #[.tmp 13, .tmp 15]) rfl ?_); at_builtin; refine Kd.R_append (Kd.int .i64) (w0 := w) w.heap.size rfl (.tmp 13) (.tmp 15) 28 3 (.int .i64 0) 8 rfl Tryz.underlying28 info3 rfl (by decide) (by omega) u3 x3_1 (rd l0 x9_1) [.int .i64 (rd l0 x9_1)] (fun _ => True) (fun _ => False) rfl rfl ?aP (fun _ hk => hk.elim) ?aF ?aO ?aB ?aS ?aL ?_; (case aP => exact rfl); (case aB => exact (by repeat (first | (with_reducible first | exact HB.out | apply below_alloc | apply pw_below_drewN | apply below_drew1) | exact HB.out))); (case aF => exact (fun _ _ => trivial)); (case aO => exact (by (with_reducible repeat (first | apply Kd.R_alloc | apply Kd.R_drewN | apply Kd.R_drew)); exact HO_3.out)); (case aS => exact (below_size (by repeat (first | (with_reducible first | exact HB.out | apply below_alloc | apply pw_below_drewN | apply below_drew1) | exact HB.out)))); (case aL => have := LMc7.out; omega); intro v144 w8 ho hb hg hat; rw [← Ny143.out] at ho; have n0_ := Aside0.mk (hb); have n1_ := Aside0.mk (ho); clear HB; clear HO_3; have HB := n0_; have HO145 := n1_; clear n0_ n1_; clear ho hb hg hat))
       go_roundg k1
       case measure => have := HK1.out; omega
       case rel => exact ⟨(y143), (wrap64 (x9_1 + 1)), (by first | rfl | (simp; done) | (simp [*]; done)), H', ⟨by have := HK1.out; omega⟩, ⟨by (with_reducible repeat (first | apply Kd.R_alloc | apply Kd.R_drewN | apply Kd.R_drew)); exact HO145.out⟩, ⟨by repeat (first | (with_reducible first | exact HB.out | apply below_alloc | apply pw_below_drewN | apply below_drew1) | exact HB.out)⟩⟩
      ·rw [if_neg c7] at H
       exact absurd H (by simp)
     ·rw [if_neg c6] at H
      exact absurd H (by simp)
    ·rw [if_neg c5] at H
     exact absurd H (by simp)
   ·rw [if_neg c4] at H
    have c4b0 : decide (x9_1 < (l0.length : Int)) = false := decide_eq_false c4
    clear c4
    obtain rfl := Option.some.inj H
    go_wp2
    go_ret
    exact ⟨_, by first | rfl | (simp [errW_none, errW_some] <;> rfl) | (simp [*, errW_none, errW_some] <;> rfl), by (with_reducible repeat (first | apply Kd.R_alloc | apply Kd.R_drewN | apply Kd.R_drew)); exact HO_3.out, by repeat (first | (with_reducible first | exact HB.out | apply below_alloc | apply pw_below_drewN | apply below_drew1) | exact HB.out)⟩

/-! ### impl_ints_uint64: function 63 -/
def impl_ints_uint64.l0 : Nat → List Int → List Int → Int → Int → Option (List Int)
 | 0, _, _, _, _ => none
 | k + 1, x3, x7, x8, x9 => if x9 < x8 then (if 0 ≤ x9 then (if x9 < (x7.length : Int) then (if x3.length < 17592186044416 then (impl_ints_uint64.l0 k (x3 ++ [wrap64 (rd x7 x9)]) x7 x8 (wrap64 (x9 + 1))) else (none)) else (none)) else (none)) else (some x3)
def impl_ints_uint64.f (k : Nat) (l0 : List Int) : Option (List Int) := impl_ints_uint64.l0 k (([] : List Int)) l0 (l0.length : Int) 0
set_option maxHeartbeats 8000000 in
set_option maxRecDepth 100000 in
theorem impl_ints_uint64.calls (k : Nat) (A0 : Option Addr) (c0 : Nat) (l0 : List Int) (r : List Int) (w : World) (hr0 : Kd.C (Kd.int .u64) w A0 l0.length l0) (hc0 : l0.length ≤ c0) (h : impl_ints_uint64.f k l0 = some r) :
  Calls Tryz.prog 63 #[.slice A0 l0.length c0] w fun e w' => ∃ v0_ : Value, e = .returned (v0_) ∧ Kd.R (Kd.int .i64) 3 w' w.heap.size (fun _ => True) v0_ r ∧ Below w.heap.size w w' := by
 have HR0 := Aside0.mk hr0
 have HC0 := Aside0.mk hc0
 clear hr0 hc0
 have HB := Aside0.mk (Below.refl w.heap.size w)
 have H : (impl_ints_uint64.l0 k (([] : List Int)) l0 (l0.length : Int) 0) = some r := h
 clear h
 obtain ⟨y171, hy171⟩ : ∃ y_ : List Int, y_ = (([] : List Int)) := ⟨_, rfl⟩
 replace H : (impl_ints_uint64.l0 k y171 l0 (l0.length : Int) 0) = some r := by first | (rw [hy171]; with_reducible exact H) | (have H2_ := (Option.bind_some _ _).symm.trans H; rw [hy171]; with_reducible exact H2_) | (have H2_ := (Option.bind_some _ _).symm.trans H; with_reducible exact H2_) | with_reducible exact H | (rw [hy171]; exact H) | exact H
 have Ny171 := Aside0.mk hy171
 clear hy171
 have H' := Aside0.mk H
 clear H
 go_enter Tryz.func63, Tryz.ntmps63
 go_wp2_with (first | ((with_reducible refine gate_dst (N := 6) rfl ?_); refine Kd.R_lit (Kd.int .i64) _ 3 ?hg (N := 6) ?hd (xs := ([] : List Int)) (inner := []) (ok := fun _ => True) (okp := fun _ => True) ?hr ?hp (fun _ hk => hk) trivial (Below.refl _ _) (Nat.le_refl _) (by simp) ?_; (case hd => rfl); (case hg => rfl); (case hr => first | (go_simp; done) | (go_simp; rfl)); (case hp => exact (Reps.none _ _)); intro v172 w2 ho3 hb hg_ hnew_; clear hg_ hnew_; (first | rw [← Ny171.out] at ho3 | (simp only [Int.reduceToNat] at ho3; rw [← Ny171.out] at ho3)); have n0_ := Aside0.mk (Kd.R_lower ho3 (below_size (by repeat (first | (with_reducible first | exact HB.out | apply below_alloc | apply pw_below_drewN | apply below_drew1) | exact HB.out)))); have n1_ := Aside0.mk (below_step (by repeat (first | (with_reducible first | exact HB.out | apply below_alloc | apply pw_below_drewN | apply below_drew1) | exact HB.out)) hb); clear HB; have HO173 := n0_; have HB := n1_; clear n0_ n1_; clear hb ho3))
 go_loopg [3, 9] k (fun kq v3 v9 w' => ∃ (x3_1 : List Int) (x9_1 : Int), v9 = .int .i64 x9_1 ∧ Aside0 (impl_ints_uint64.l0 kq x3_1 l0 (l0.length : Int) x9_1 = some r) ∧ Aside0 (kq ≤ k) ∧ Aside0 (Kd.R (Kd.int .i64) 3 w' w.heap.size (fun _ => True) v3 x3_1) ∧ Aside0 (Below w.heap.size w w'))
 case atStart => exact ⟨(y171), (0), (by first | rfl | (simp; done) | (simp [*]; done)), H', ⟨Nat.le_refl _⟩, ⟨by (with_reducible repeat (first | apply Kd.R_alloc | apply Kd.R_drewN | apply Kd.R_drew)); exact HO173.out⟩, ⟨by repeat (first | (with_reducible first | exact HB.out | apply below_alloc | apply pw_below_drewN | apply below_drew1) | exact HB.out)⟩⟩
 case round =>
  clear H'
  try clear p2
  obtain ⟨x3_1, x9_1, rfl, HA, HK1, HO_3, HB⟩ := hrel
  cases gk with
  | zero => exact absurd HA.out (by simp [impl_ints_uint64.l0])
  | succ k1 =>
   have H := HA.out
   clear HA
   simp only [impl_ints_uint64.l0] at H
   by_cases c4 : x9_1 < (l0.length : Int)
   ·rw [if_pos c4] at H
    have c4b0 : decide (x9_1 < (l0.length : Int)) = true := decide_eq_true c4
    clear c4
    by_cases c5 : 0 ≤ x9_1
    ·rw [if_pos c5] at H
     have c5b0 : decide (0 ≤ x9_1) = true := decide_eq_true c5
     clear c5
     by_cases c6 : x9_1 < (l0.length : Int)
     ·rw [if_pos c6] at H
      have c6b0 : decide (x9_1 < (l0.length : Int)) = true := decide_eq_true c6
      clear c6
      by_cases c7 : x3_1.length < 17592186044416
      ·rw [if_pos c7] at H
       have LMc7 := Aside0.mk c7
       clear c7
       obtain ⟨y175, hy175⟩ : ∃ y_ : List Int, y_ = (x3_1 ++ [wrap64 (rd l0 x9_1)]) := ⟨_, rfl⟩
       replace H : (impl_ints_uint64.l0 k1 y175 l0 (l0.length : Int) (wrap64 (x9_1 + 1))) = some r := by first | (rw [hy175]; with_reducible exact H) | (have H2_ := (Option.bind_some _ _).symm.trans H; rw [hy175]; with_reducible exact H2_) | (have H2_ := (Option.bind_some _ _).symm.trans H; with_reducible exact H2_) | with_reducible exact H | (rw [hy175]; exact H) | exact H
       have Ny175 := Aside0.mk hy175
       clear hy175
       have H' := Aside0.mk H
       clear H
       have p174 : 0 ≤ (x9_1 : Int) := of_decide_eq_true (by first | (with_reducible assumption) | assumption)
       have q174 : x9_1 < (l0.length : Int) := of_decide_eq_true (by first | (with_reducible assumption) | assumption)
       obtain ⟨ad174, e174, hx174_0⟩ := Kd.at_int HR0.out x9_1 p174 q174
       cases e174
       replace hx174_0 := (HB.out.cell (World.block_lt_of_cell? w _ hx174_0)).trans hx174_0
       replace p174 := eq_true p174
       replace q174 := eq_true q174
       go_wp2_with (first | ((with_reducible refine gate_builtin (b := .append) (xs := #[.tmp 13, .tmp 16]) rfl ?_); at_builtin; refine Kd.R_append (Kd.int .i64) (w0 := w) w.heap.size rfl (.tmp 13) (.tmp 16) 28 3 (.int .i64 0) 8 rfl Tryz.underlying28 info3 rfl (by decide) (by omega) u3 x3_1 (wrap64 (rd l0 x9_1)) [.int .i64 (wrap64 (rd l0 x9_1))] (fun _ => True) (fun _ => False) rfl rfl ?aP (fun _ hk => hk.elim) ?aF ?aO ?aB ?aS ?aL ?_; (case aP => exact rfl); (case aB => exact (by repeat (first | (with_reducible first | exact HB.out | apply below_alloc | apply pw_below_drewN | apply below_drew1) | exact HB.out))); (case aF => exact (fun _ _ => trivial)); (case aO => exact (by (with_reducible repeat (first | apply Kd.R_alloc | apply Kd.R_drewN | apply Kd.R_drew)); exact HO_3.out)); (case aS => exact (below_size (by repeat (first | (with_reducible first | exact HB.out | apply below_alloc | apply pw_below_drewN | apply below_drew1) | exact HB.out)))); (case aL => have := LMc7.out; omega); intro v176 w8 ho hb hg hat; rw [← Ny175.out] at ho; have n0_ := Aside0.mk (hb); have n1_ := Aside0.mk (ho); clear HB; clear HO_3; have HB := n0_; have HO177 := n1_; clear n0_ n1_; clear ho hb hg hat))
       go_roundg k1
       case measure => have := HK1.out; omega
       case rel => exact ⟨(y175), (wrap64 (x9_1 + 1)), (by first | rfl | (simp; done) | (simp [*]; done)), H', ⟨by have := HK1.out; omega⟩, ⟨by (with_reducible repeat (first | apply Kd.R_alloc | apply Kd.R_drewN | apply Kd.R_drew)); exact HO177.out⟩, ⟨by repeat (first | (with_reducible first | exact HB.out | apply below_alloc | apply pw_below_drewN | apply below_drew1) | exact HB.out)⟩⟩
      ·rw [if_neg c7] at H
       exact absurd H (by simp)
     ·rw [if_neg c6] at H
      exact absurd H (by simp)
    ·rw [if_neg c5] at H
     exact absurd H (by simp)
   ·rw [if_neg c4] at H
    have c4b0 : decide (x9_1 < (l0.length : Int)) = false := decide_eq_false c4
    clear c4
    obtain rfl := Option.some.inj H
    go_wp2
    go_ret
    exact ⟨_, by first | rfl | (simp [errW_none, errW_some] <;> rfl) | (simp [*, errW_none, errW_some] <;> rfl), by (with_reducible repeat (first | apply Kd.R_alloc | apply Kd.R_drewN | apply Kd.R_drew)); exact HO_3.out, by repeat (first | (with_reducible first | exact HB.out | apply below_alloc | apply pw_below_drewN | apply below_drew1) | exact HB.out)⟩

/-! ### laws_sameInts: function 26 -/
def laws_sameInts.l0 : Nat → List Int → List Int → Int → Int → Option (Bool)
 | 0, _, _, _, _ => none
 | k + 1, x0, x1, x12, x13 => if x13 < x12 then (if 0 ≤ x13 then (if x13 < (x0.length : Int) then (if x13 < (x1.length : Int) then (if (rd x0 x13) = (rd x1 x13) then (laws_sameInts.l0 k x0 x1 x12 (wrap64 (x13 + 1))) else (some false)) else (none)) else (none)) else (none)) else (some true)
def laws_sameInts.f (k : Nat) (l0 : List Int) (l1 : List Int) : Option (Bool) := if (l0.length : Int) = (l1.length : Int) then (laws_sameInts.l0 k l0 l1 (l0.length : Int) 0) else (some false)
set_option maxHeartbeats 8000000 in
set_option maxRecDepth 100000 in
theorem laws_sameInts.calls (k : Nat) (A0 : Option Addr) (c0 : Nat) (l0 : List Int) (A1 : Option Addr) (c1 : Nat) (l1 : List Int) (r : Bool) (w : World) (hr0 : Kd.C (Kd.int .i64) w A0 l0.length l0) (hc0 : l0.length ≤ c0) (hr1 : Kd.C (Kd.int .i64) w A1 l1.length l1) (hc1 : l1.length ≤ c1) (h : laws_sameInts.f k l0 l1 = some r) :
  Calls Tryz.prog 26 #[.slice A0 l0.length c0, .slice A1 l1.length c1] w fun e w' => e = .returned (.bool r) ∧ Drawn0 w w' := by
 have HR0 := Aside0.mk hr0
 have HC0 := Aside0.mk hc0
 clear hr0 hc0
 have HR1 := Aside0.mk hr1
 have HC1 := Aside0.mk hc1
 clear hr1 hc1
 have H : (if (l0.length : Int) = (l1.length : Int) then (laws_sameInts.l0 k l0 l1 (l0.length : Int) 0) else (some false)) = some r := h
 clear h
 by_cases c3 : (l0.length : Int) = (l1.length : Int)
 ·rw [if_pos c3] at H
  have c3b0 : ((l0.length : Int) == (l1.length : Int)) = true := beq_iff_eq.mpr c3
  have c3b1 : ((l0.length : Int) != (l1.length : Int)) = false := bne_eq_false_iff_eq.mpr c3
  have c3b2 : (l0.length == l1.length) = true := by first | simpa using c3 | (simp at c3 ⊢; omega)
  clear c3
  have H' := Aside0.mk H
  clear H
  go_enter Tryz.func26, Tryz.ntmps26
  go_wp2
  repeat (go_quiet (fail); try go_wp2)
  go_loopg [13] k (fun kq v13 w' => ∃ (x13_1 : Int), v13 = .int .i64 x13_1 ∧ Aside0 (laws_sameInts.l0 kq l0 l1 (l0.length : Int) x13_1 = some r) ∧ Aside0 (kq ≤ k) ∧ Drawn0 w w')
  case atStart => exact ⟨(0), (by first | rfl | (simp; done) | (simp [*]; done)), H', ⟨Nat.le_refl _⟩, by repeat (first | exact Drawn0.refl _ | apply Drawn0.step)⟩
  case round =>
   clear H'
   try clear c1
   try clear c2
   try clear p2
   try clear c3
   try clear c3b0
   try clear c3b1
   try clear c3b2
   obtain ⟨x13_1, rfl, HA, HK1, ⟨m1, rfl⟩⟩ := hrel
   cases gk with
   | zero => exact absurd HA.out (by simp [laws_sameInts.l0])
   | succ k1 =>
    have H := HA.out
    clear HA
    simp only [laws_sameInts.l0] at H
    by_cases c4 : x13_1 < (l0.length : Int)
    ·rw [if_pos c4] at H
     have c4b0 : decide (x13_1 < (l0.length : Int)) = true := decide_eq_true c4
     clear c4
     by_cases c5 : 0 ≤ x13_1
     ·rw [if_pos c5] at H
      have c5b0 : decide (0 ≤ x13_1) = true := decide_eq_true c5
      clear c5
      by_cases c6 : x13_1 < (l0.length : Int)
      ·rw [if_pos c6] at H
       have c6b0 : decide (x13_1 < (l0.length : Int)) = true := decide_eq_true c6
       clear c6
       by_cases c7 : x13_1 < (l1.length : Int)
       ·rw [if_pos c7] at H
        have c7b0 : decide (x13_1 < (l1.length : Int)) = true := decide_eq_true c7
        clear c7
        by_cases c8 : (rd l0 x13_1) = (rd l1 x13_1)
        ·rw [if_pos c8] at H
         have c8b0 : ((rd l0 x13_1) == (rd l1 x13_1)) = true := beq_iff_eq.mpr c8
         have c8b1 : ((rd l0 x13_1) != (rd l1 x13_1)) = false := bne_eq_false_iff_eq.mpr c8
         clear c8
         have H' := Aside0.mk H
         clear H
         have p152 : 0 ≤ (x13_1 : Int) := of_decide_eq_true (by first | (with_reducible assumption) | assumption)
         have q152 : x13_1 < (l0.length : Int) := of_decide_eq_true (by first | (with_reducible assumption) | assumption)
         obtain ⟨ad152, e152, hx152_0⟩ := Kd.at_int HR0.out x13_1 p152 q152
         cases e152
         replace p152 := eq_true p152
         replace q152 := eq_true q152
         have p153 : 0 ≤ (x13_1 : Int) := of_decide_eq_true (by first | (with_reducible assumption) | assumption)
         have q153 : x13_1 < (l1.length : Int) := of_decide_eq_true (by first | (with_reducible assumption) | assumption)
         obtain ⟨ad153, e153, hx153_0⟩ := Kd.at_int HR1.out x13_1 p153 q153
         cases e153
         replace p153 := eq_true p153
         replace q153 := eq_true q153
         go_wp2
         repeat (go_quiet (fail); try go_wp2)
         go_roundg k1
         case measure => have := HK1.out; omega
         case rel => exact ⟨(wrap64 (x13_1 + 1)), (by first | rfl | (simp; done) | (simp [*]; done)), H', ⟨by have := HK1.out; omega⟩, by repeat (first | exact Drawn0.refl _ | apply Drawn0.step)⟩
        ·rw [if_neg c8] at H
         have c8b0 : ((rd l0 x13_1) == (rd l1 x13_1)) = false := beq_eq_false_iff_ne.mpr c8
         have c8b1 : ((rd l0 x13_1) != (rd l1 x13_1)) = true := bne_iff_ne.mpr c8
         obtain rfl := Option.some.inj H
         have p152 : 0 ≤ (x13_1 : Int) := of_decide_eq_true (by first | (with_reducible assumption) | assumption)
         have q152 : x13_1 < (l0.length : Int) := of_decide_eq_true (by first | (with_reducible assumption) | assumption)
         obtain ⟨ad152, e152, hx152_0⟩ := Kd.at_int HR0.out x13_1 p152 q152
         cases e152
         replace p152 := eq_true p152
         replace q152 := eq_true q152
         have p153 : 0 ≤ (x13_1 : Int) := of_decide_eq_true (by first | (with_reducible assumption) | assumption)
         have q153 : x13_1 < (l1.length : Int) := of_decide_eq_true (by first | (with_reducible assumption) | assumption)
         obtain ⟨ad153, e153, hx153_0⟩ := Kd.at_int HR1.out x13_1 p153 q153
         cases e153
         replace p153 := eq_true p153
         replace q153 := eq_true q153
         go_wp2
         repeat (go_quiet (fail); try go_wp2)
         go_ret
         exact ⟨by first | rfl | (simp; done) | (simp [*]; done), by repeat (first | exact Drawn0.refl _ | apply Drawn0.step)⟩
       ·rw [if_neg c7] at H
        exact absurd H (by simp)
      ·rw [if_neg c6] at H
       exact absurd H (by simp)
     ·rw [if_neg c5] at H
      exact absurd H (by simp)
    ·rw [if_neg c4] at H
     have c4b0 : decide (x13_1 < (l0.length : Int)) = false := decide_eq_false c4
     clear c4
     obtain rfl := Option.some.inj H
     go_wp2
     repeat (go_quiet (fail); try go_wp2)
     go_ret
     exact ⟨by first | rfl | (simp; done) | (simp [*]; done), by repeat (first | exact Drawn0.refl _ | apply Drawn0.step)⟩
 ·rw [if_neg c3] at H
  have c3b0 : ((l0.length : Int) == (l1.length : Int)) = false := beq_eq_false_iff_ne.mpr c3
  have c3b1 : ((l0.length : Int) != (l1.length : Int)) = true := bne_iff_ne.mpr c3
  have c3b2 : (l0.length == l1.length) = false := by first | simpa using c3 | (simp at c3 ⊢; omega)
  obtain rfl := Option.some.inj H
  go_enter Tryz.func26, Tryz.ntmps26
  go_wp2
  repeat (go_quiet (fail); try go_wp2)
  go_ret
  exact ⟨by first | rfl | (simp; done) | (simp [*]; done), by repeat (first | exact Drawn0.refl _ | apply Drawn0.step)⟩

/-! ### badgery_beUint16: function 133 -/
def badgery_beUint16.f (l0 : List Int) : Option (Int) := if 1 < (l0.length : Int) then (if 0 < (l0.length : Int) then (some (Go.bits .or .u16 (IntKind.u16.wrap (rd l0 1)) (IntKind.u16.wrap ((IntKind.u16.wrap (rd l0 0)) * 256)))) else (none)) else (none)
set_option maxHeartbeats 8000000 in
set_option maxRecDepth 100000 in
theorem badgery_beUint16.calls (A0 : Option Addr) (c0 : Nat) (l0 : List Int) (r : Int) (w : World) (hr0 : Kd.C (Kd.int .u8) w A0 l0.length l0) (hc0 : l0.length ≤ c0) (h : badgery_beUint16.f l0 = some r) :
  Calls Tryz.prog 133 #[.slice A0 l0.length c0] w fun e w' => e = .returned (.int .u16 r) ∧ Drawn0 w w' := by
 have HR0 := Aside0.mk hr0
 have HC0 := Aside0.mk hc0
 clear hr0 hc0
 have H : (if 1 < (l0.length : Int) then (if 0 < (l0.length : Int) then (some (Go.bits .or .u16 (IntKind.u16.wrap (rd l0 1)) (IntKind.u16.wrap ((IntKind.u16.wrap (rd l0 0)) * 256)))) else (none)) else (none)) = some r := h
 clear h
 by_cases c2 : 1 < (l0.length : Int)
 ·rw [if_pos c2] at H
  have c2b0 : decide (1 < (l0.length : Int)) = true := decide_eq_true c2
  have c2b1 : decide (1 < l0.length) = true := decide_eq_true (by omega)
  clear c2
  by_cases c3 : 0 < (l0.length : Int)
  ·rw [if_pos c3] at H
   have c3b0 : decide (0 < (l0.length : Int)) = true := decide_eq_true c3
   have c3b1 : decide (0 < l0.length) = true := decide_eq_true (by omega)
   clear c3
   obtain rfl := Option.some.inj H
   have p178 : 0 ≤ (1 : Int) := (by omega)
   have q178 : 1 < (l0.length : Int) := of_decide_eq_true (by first | (with_reducible assumption) | assumption)
   obtain ⟨ad178, e178, hx178_0⟩ := Kd.at_int HR0.out 1 p178 q178
   cases e178
   (try simp only [show (1 : Int).toNat = 1 from rfl, Nat.reduceMul, Nat.reduceEqDiff, Go.Addr.add, ↓reduceIte] at hx178_0)
   have qi178 : (1 < l0.length) = True := eq_true (by omega)
   (try rw [show ((1 : Int)).toNat = 1 from rfl] at hx178_0)
   replace p178 := eq_true p178
   replace q178 := eq_true q178
   have p179 : 0 ≤ (0 : Int) := (by omega)
   have q179 : 0 < (l0.length : Int) := of_decide_eq_true (by first | (with_reducible assumption) | assumption)
   obtain ⟨ad179, e179, hx179_0⟩ := Kd.at_int HR0.out 0 p179 q179
   obtain rfl : ad178 = ad179 := (by injection e179)
   have qi179 : (0 < l0.length) = True := eq_true (by omega)
   (try rw [show ((0 : Int)).toNat = 0 from rfl] at hx179_0)
   (try rw [Addr.add_zero'] at hx179_0)
   replace p179 := eq_true p179
   replace q179 := eq_true q179
   go_enter Tryz.func133, Tryz.ntmps133
   go_wp2
   repeat (go_quiet (fail); try go_wp2)
   go_ret
   exact ⟨by first | rfl | (simp; done) | (simp [*]; done), by repeat (first | exact Drawn0.refl _ | apply Drawn0.step)⟩
  ·rw [if_neg c3] at H
   exact absurd H (by simp)
 ·rw [if_neg c2] at H
  exact absurd H (by simp)

/-! ### badgery_beUint32: function 105 -/
def badgery_beUint32.f (l0 : List Int) : Option (Int) := if 2 ≤ 4 then (if 4 ≤ (l0.length : Int) then ((badgery_beUint16.f ((l0.take 4).drop 2)).bind fun t181 => ((badgery_beUint16.f l0).bind fun t182 => (some (Go.bits .or .u32 ((t181) % 4294967296) ((((t182) % 4294967296) * 65536) % 4294967296))))) else (none)) else (none)
set_option maxHeartbeats 8000000 in
set_option maxRecDepth 100000 in
theorem badgery_beUint32.calls (A0 : Option Addr) (c0 : Nat) (l0 : List Int) (r : Int) (w : World) (hr0 : Kd.C (Kd.int .u8) w A0 l0.length l0) (hc0 : l0.length ≤ c0) (h : badgery_beUint32.f l0 = some r) :
  Calls Tryz.prog 105 #[.slice A0 l0.length c0] w fun e w' => e = .returned (.int .u32 r) ∧ Drawn0 w w' := by
 have HR0 := Aside0.mk hr0
 have HC0 := Aside0.mk hc0
 clear hr0 hc0
 have H : (if 2 ≤ 4 then (if 4 ≤ (l0.length : Int) then ((badgery_beUint16.f ((l0.take 4).drop 2)).bind fun t181 => ((badgery_beUint16.f l0).bind fun t182 => (some (Go.bits .or .u32 ((t181) % 4294967296) ((((t182) % 4294967296) * 65536) % 4294967296))))) else (none)) else (none)) = some r := h
 clear h
 by_cases c2 : 2 ≤ 4
 ·rw [if_pos c2] at H
  have c2b0 := eq_true c2
  have c2b1 : decide (2 ≤ 4) = true := decide_eq_true c2
  clear c2
  by_cases c3 : 4 ≤ (l0.length : Int)
  ·rw [if_pos c3] at H
   have c3b0 := eq_true c3
   have c3b1 : decide (4 ≤ (l0.length : Int)) = true := decide_eq_true c3
   clear c3
   replace H := Option.bind_eq_some_iff.mp H
   obtain ⟨t181, A40, H⟩ := H
   replace H : ((badgery_beUint16.f l0).bind fun t182 => (some (Go.bits .or .u32 ((t181) % 4294967296) ((((t182) % 4294967296) * 65536) % 4294967296)))) = some r := H
   have A4 := Aside0.mk A40
   clear A40
   replace H := Option.bind_eq_some_iff.mp H
   obtain ⟨t182, A50, H⟩ := H
   replace H : (some (Go.bits .or .u32 ((t181) % 4294967296) ((((t182) % 4294967296) * 65536) % 4294967296))) = some r := H
   have A5 := Aside0.mk A50
   clear A50
   obtain rfl := Option.some.inj H
   obtain ⟨i06, hi06, _, hsz6, _⟩ := info_parts info5
   obtain ⟨A6, hcut6, hA6, hC6⟩ := print_mid_of (P := Tryz.prog) (Value.int .u8) 0 81 5 .i64 .i64 Tryz.underlying81 hi06 hsz6 A0 c0 l0 2 4 (by omega) (by first | omega | exact of_decide_eq_true (by first | (with_reducible assumption) | assumption)) (of_decide_eq_true (by first | (with_reducible assumption) | assumption)) HC0.out
   have HR180 := Aside0.mk (Kd.C_of_reads (h1 := fun _ => rfl) (hA6 _ (Kd.reads_of_C HR0.out)))
   have HC180 := Aside0.mk hC6
   clear hA6 hC6 hi06 hsz6
   go_enter Tryz.func105, Tryz.ntmps105
   go_wp2_with (first | ((with_reducible refine gate_callee (f := 133) rfl ?_); refine goesL_ (some 5) rfl rfl Tryz.func133 (by kernel_rfl) rfl #[.slice A6 ((l0.take 4).drop 2).length (c0 - 2)] rfl (by (try simp only [List.map_toArray, List.map_cons, List.map_nil]); first | done | (rw [show ((l0.take 4).drop 2).length = (4 - 2) from (by rw [List.length_drop, List.length_take]; have h_ : (4 : Int) ≤ (l0.length : Int) := of_decide_eq_true (by first | (with_reducible assumption) | assumption); omega)] <;> rfl) | rfl | (simp only [List.length_drop, List.length_take]; rfl)) ?_; (with_reducible refine (badgery_beUint16.calls _ _ ((l0.take 4).drop 2) t181 _ ?side1 ?side2 A4.out).mono ?_); (case side1 => repeat (first | exact HR180.out | (with_reducible refine Kd.C_alloc ?_ _) | (with_reducible refine Kd.C_drewN ?_ _) | (with_reducible refine Kd.C_drew ?_))); (case side2 => exact HC180.out); rintro e w' ⟨rfl, ⟨nd, rfl⟩⟩; refine ⟨_, rfl, ?_⟩) | ((with_reducible refine gate_callee (f := 133) rfl ?_); refine goesL_ (some 8) rfl rfl Tryz.func133 (by kernel_rfl) rfl #[.slice A0 l0.length c0] rfl (by (try simp only [List.map_toArray, List.map_cons, List.map_nil]); first | done | rfl | (simp only [List.length_drop, List.length_take]; rfl)) ?_; (with_reducible refine (badgery_beUint16.calls _ _ l0 t182 _ ?side1 ?side2 A5.out).mono ?_); (case side1 => repeat (first | exact HR0.out | (with_reducible refine Kd.C_alloc ?_ _) | (with_reducible refine Kd.C_drewN ?_ _) | (with_reducible refine Kd.C_drew ?_))); (case side2 => exact HC0.out); rintro e w' ⟨rfl, ⟨nd, rfl⟩⟩; refine ⟨_, rfl, ?_⟩))
   go_ret
   exact ⟨by first | rfl | (simp; done) | (simp [*]; done), by repeat (first | exact Drawn0.refl _ | apply Drawn0.step)⟩
  ·rw [if_neg c3] at H
   exact absurd H (by simp)
 ·rw [if_neg c2] at H
  exact absurd H (by simp)

/-! ### badgery_beUint64: function 77 -/
def badgery_beUint64.f (l0 : List Int) : Option (Int) := if 4 ≤ 8 then (if 8 ≤ (l0.length : Int) then ((badgery_beUint32.f ((l0.take 8).drop 4)).bind fun t184 => ((badgery_beUint32.f l0).bind fun t185 => (some (Go.bits .or .u64 (IntKind.u64.wrap (t184)) (IntKind.u64.wrap ((IntKind.u64.wrap (t185)) * 4294967296)))))) else (none)) else (none)
set_option maxHeartbeats 8000000 in
set_option maxRecDepth 100000 in
theorem badgery_beUint64.calls (A0 : Option Addr) (c0 : Nat) (l0 : List Int) (r : Int) (w : World) (hr0 : Kd.C (Kd.int .u8) w A0 l0.length l0) (hc0 : l0.length ≤ c0) (h : badgery_beUint64.f l0 = some r) :
  Calls Tryz.prog 77 #[.slice A0 l0.length c0] w fun e w' => e = .returned (.int .u64 r) ∧ Drawn0 w w' := by
 have HR0 := Aside0.mk hr0
 have HC0 := Aside0.mk hc0
 clear hr0 hc0
 have H : (if 4 ≤ 8 then (if 8 ≤ (l0.length : Int) then ((badgery_beUint32.f ((l0.take 8).drop 4)).bind fun t184 => ((badgery_beUint32.f l0).bind fun t185 => (some (Go.bits .or .u64 (IntKind.u64.wrap (t184)) (IntKind.u64.wrap ((IntKind.u64.wrap (t185)) * 4294967296)))))) else (none)) else (none)) = some r := h
 clear h
 by_cases c2 : 4 ≤ 8
 ·rw [if_pos c2] at H
  have c2b0 := eq_true c2
  have c2b1 : decide (4 ≤ 8) = true := decide_eq_true c2
  clear c2
  by_cases c3 : 8 ≤ (l0.length : Int)
  ·rw [if_pos c3] at H
   have c3b0 := eq_true c3
   have c3b1 : decide (8 ≤ (l0.length : Int)) = true := decide_eq_true c3
   clear c3
   replace H := Option.bind_eq_some_iff.mp H
   obtain ⟨t184, A40, H⟩ := H
   replace H : ((badgery_beUint32.f l0).bind fun t185 => (some (Go.bits .or .u64 (IntKind.u64.wrap (t184)) (IntKind.u64.wrap ((IntKind.u64.wrap (t185)) * 4294967296))))) = some r := H
   have A4 := Aside0.mk A40
   clear A40
   replace H := Option.bind_eq_some_iff.mp H
   obtain ⟨t185, A50, H⟩ := H
   replace H : (some (Go.bits .or .u64 (IntKind.u64.wrap (t184)) (IntKind.u64.wrap ((IntKind.u64.wrap (t185)) * 4294967296)))) = some r := H
   have A5 := Aside0.mk A50
   clear A50
   obtain rfl := Option.some.inj H
   obtain ⟨i06, hi06, _, hsz6, _⟩ := info_parts info5
   obtain ⟨A6, hcut6, hA6, hC6⟩ := print_mid_of (P := Tryz.prog) (Value.int .u8) 0 81 5 .i64 .i64 Tryz.underlying81 hi06 hsz6 A0 c0 l0 4 8 (by omega) (by first | omega | exact of_decide_eq_true (by first | (with_reducible assumption) | assumption)) (of_decide_eq_true (by first | (with_reducible assumption) | assumption)) HC0.out
   have HR183 := Aside0.mk (Kd.C_of_reads (h1 := fun _ => rfl) (hA6 _ (Kd.reads_of_C HR0.out)))
   have HC183 := Aside0.mk hC6
   clear hA6 hC6 hi06 hsz6
   go_enter Tryz.func77, Tryz.ntmps77
   go_wp2_with (first | ((with_reducible refine gate_callee (f := 105) rfl ?_); refine goesL_ (some 5) rfl rfl Tryz.func105 (by kernel_rfl) rfl #[.slice A6 ((l0.take 8).drop 4).length (c0 - 4)] rfl (by (try simp only [List.map_toArray, List.map_cons, List.map_nil]); first | done | (rw [show ((l0.take 8).drop 4).length = (8 - 4) from (by rw [List.length_drop, List.length_take]; have h_ : (8 : Int) ≤ (l0.length : Int) := of_decide_eq_true (by first | (with_reducible assumption) | assumption); omega)] <;> rfl) | rfl | (simp only [List.length_drop, List.length_take]; rfl)) ?_; (with_reducible refine (badgery_beUint32.calls _ _ ((l0.take 8).drop 4) t184 _ ?side1 ?side2 A4.out).mono ?_); (case side1 => repeat (first | exact HR183.out | (with_reducible refine Kd.C_alloc ?_ _) | (with_reducible refine Kd.C_drewN ?_ _) | (with_reducible refine Kd.C_drew ?_))); (case side2 => exact HC183.out); rintro e w' ⟨rfl, ⟨nd, rfl⟩⟩; refine ⟨_, rfl, ?_⟩) | ((with_reducible refine gate_callee (f := 105) rfl ?_); refine goesL_ (some 8) rfl rfl Tryz.func105 (by kernel_rfl) rfl #[.slice A0 l0.length c0] rfl (by (try simp only [List.map_toArray, List.map_cons, List.map_nil]); first | done | rfl | (simp only [List.length_drop, List.length_take]; rfl)) ?_; (with_reducible refine (badgery_beUint32.calls _ _ l0 t185 _ ?side1 ?side2 A5.out).mono ?_); (case side1 => repeat (first | exact HR0.out | (with_reducible refine Kd.C_alloc ?_ _) | (with_reducible refine Kd.C_drewN ?_ _) | (with_reducible refine Kd.C_drew ?_))); (case side2 => exact HC0.out); rintro e w' ⟨rfl, ⟨nd, rfl⟩⟩; refine ⟨_, rfl, ?_⟩))
   go_ret
   exact ⟨by first | rfl | (simp; done) | (simp [*]; done), by repeat (first | exact Drawn0.refl _ | apply Drawn0.step)⟩
  ·rw [if_neg c3] at H
   exact absurd H (by simp)
 ·rw [if_neg c2] at H
  exact absurd H (by simp)

/-! ### badgery_ParseTs: function 65 -/
def badgery_ParseTs.f (l0 : List Int) : Option (Int) := if (l0.length : Int) ≤ 8 then (some 0) else (if 0 ≤ (wrap64 ((l0.length : Int) - 8)) then (if (wrap64 ((l0.length : Int) - 8)) ≤ (l0.length : Int) then ((badgery_beUint64.f (l0.drop ((wrap64 ((l0.length : Int) - 8)) : Int).toNat)).bind fun t187 => (some (IntKind.u64.wrap (18446744073709551615 - t187)))) else (none)) else (none))
set_option maxHeartbeats 8000000 in
set_option maxRecDepth 100000 in
theorem badgery_ParseTs.calls (A0 : Option Addr) (c0 : Nat) (l0 : List Int) (r : Int) (w : World) (hr0 : Kd.C (Kd.int .u8) w A0 l0.length l0) (hc0 : l0.length ≤ c0) (h : badgery_ParseTs.f l0 = some r) :
  Calls Tryz.prog 65 #[.slice A0 l0.length c0] w fun e w' => e = .returned (.int .u64 r) ∧ Drawn0 w w' := by
 have HR0 := Aside0.mk hr0
 have HC0 := Aside0.mk hc0
 clear hr0 hc0
 have H : (if (l0.length : Int) ≤ 8 then (some 0) else (if 0 ≤ (wrap64 ((l0.length : Int) - 8)) then (if (wrap64 ((l0.length : Int) - 8)) ≤ (l0.length : Int) then ((badgery_beUint64.f (l0.drop ((wrap64 ((l0.length : Int) - 8)) : Int).toNat)).bind fun t187 => (some (IntKind.u64.wrap (18446744073709551615 - t187)))) else (none)) else (none))) = some r := h
 clear h
 by_cases c2 : (l0.length : Int) ≤ 8
 ·rw [if_pos c2] at H
  have c2b0 : decide ((l0.length : Int) ≤ 8) = true := decide_eq_true c2
  have c2b1 : decide (l0.length ≤ 8) = true := decide_eq_true (by omega)
  clear c2
  obtain rfl := Option.some.inj H
  go_enter Tryz.func65, Tryz.ntmps65
  go_wp2
  go_ret
  exact ⟨by first | rfl | (simp; done) | (simp [*]; done), by repeat (first | exact Drawn0.refl _ | apply Drawn0.step)⟩
 ·rw [if_neg c2] at H
  have c2b0 : decide ((l0.length : Int) ≤ 8) = false := decide_eq_false c2
  have c2b1 : decide (l0.length ≤ 8) = false := decide_eq_false (by omega)
  clear c2
  obtain ⟨ji3, hji3⟩ : ∃ j_ : Int, (wrap64 ((l0.length : Int) - 8)) = j_ := ⟨_, rfl⟩
  replace H : (if 0 ≤ (ji3) then (if (ji3) ≤ (l0.length : Int) then ((badgery_beUint64.f (l0.drop ((ji3) : Int).toNat)).bind fun t187 => (some (IntKind.u64.wrap (18446744073709551615 - t187)))) else (none)) else (none)) = some r := by first | (rw [hji3] at H; exact H) | (simp only [hji3] at H ⊢; exact H)
  have hji3w : (IntKind.i64.wrap ((l0.length : Int) - 8)) = ji3 := (i64_w _).trans hji3
  by_cases c4 : 0 ≤ (ji3)
  ·rw [if_pos c4] at H
   have c4b0 := eq_true c4
   have c4b1 : decide (0 ≤ (ji3)) = true := decide_eq_true c4
   clear c4
   by_cases c5 : (ji3) ≤ (l0.length : Int)
   ·rw [if_pos c5] at H
    have c5b0 := eq_true c5
    have c5b1 : decide ((ji3) ≤ (l0.length : Int)) = true := decide_eq_true c5
    clear c5
    replace H := Option.bind_eq_some_iff.mp H
    obtain ⟨t187, A60, H⟩ := H
    replace H : (some (IntKind.u64.wrap (18446744073709551615 - t187))) = some r := H
    have A6 := Aside0.mk A60
    clear A60
    obtain rfl := Option.some.inj H
    obtain ⟨i07, hi07, _, hsz7, _⟩ := info_parts info5
    obtain ⟨A7, hcut7, hA7, hC7⟩ := print_drop_of (P := Tryz.prog) (Value.int .u8) 0 81 5 .i64 Tryz.underlying81 hi07 hsz7 A0 c0 l0 (ji3) (of_decide_eq_true (by first | (with_reducible assumption) | assumption)) (of_decide_eq_true (by first | (with_reducible assumption) | assumption)) HC0.out
    have HR186 := Aside0.mk (Kd.C_of_reads (h1 := fun _ => rfl) (hA7 _ (Kd.reads_of_C HR0.out)))
    have HC186 := Aside0.mk hC7
    clear hA7 hC7 hi07 hsz7
    go_enter Tryz.func65, Tryz.ntmps65
    go_wp2_with (first | ((with_reducible refine gate_callee (f := 77) rfl ?_); refine goesL_ (some 11) rfl rfl Tryz.func77 (by kernel_rfl) rfl #[.slice A7 (l0.drop ((ji3) : Int).toNat).length (c0 - (ji3).toNat)] rfl (by (try simp only [List.map_toArray, List.map_cons, List.map_nil]); first | done | (rw [show (l0.drop ((ji3) : Int).toNat).length = (l0.length - (ji3).toNat) from List.length_drop] <;> rfl) | (simp only [hji3]; rfl) | rfl | (simp only [List.length_drop, List.length_take]; rfl)) ?_; (with_reducible refine (badgery_beUint64.calls _ _ (l0.drop ((ji3) : Int).toNat) t187 _ ?side1 ?side2 A6.out).mono ?_); (case side1 => repeat (first | exact HR186.out | (with_reducible refine Kd.C_alloc ?_ _) | (with_reducible refine Kd.C_drewN ?_ _) | (with_reducible refine Kd.C_drew ?_))); (case side2 => exact HC186.out); rintro e w' ⟨rfl, ⟨nd, rfl⟩⟩; refine ⟨_, rfl, ?_⟩))
    go_ret
    exact ⟨by first | rfl | (simp; done) | (simp only [← hji3] <;> (first | rfl | simp)) | (simp [*]; done), by repeat (first | exact Drawn0.refl _ | apply Drawn0.step)⟩
   ·rw [if_neg c5] at H
    exact absurd H (by simp)
  ·rw [if_neg c4] at H
   exact absurd H (by simp)

/-! ### bytes_Equal: function 158 -/
def bytes_Equal.f (l0 : List Int) (l1 : List Int) : Option (Bool) := some ((strOfNums l0).toList == (strOfNums l1).toList)
end Go.Proofs.YtnineoajmgneiaaGreat.L
namespace Go.Proofs.YtnineoajmgneiaaGreat.L
open Go.RowKit Go.Proofs.YtnineoajmgneiaaGreatW.PrintWords Go.Proofs.YtnineoajmgneiaaGreatW.PrintLast Go.Proofs.YtnineoajmgneiaaGreatW.PrintMore
attribute [local go_sem] max2_int min2_int max_two min_two max_three min_three max_four min_four   -- for this text's walks alone
set_option linter.unusedVariables false
set_option linter.unusedSimpArgs false

/-! ### laws_zzFits8: function 59 -/
def laws_zzFits8.f (a0_0 : Int) (a0_1 : ByteArray) (a0_2 : Int) (a0_3 : ByteArray) (a0_4 : Int) (a0_5 : Int) (a0_6 : Int) (a0_7 : Int) (a0_8 : Int) : Option (Bool) := if (a0_1.size : Int) > 2147483647 then (some false) else (if (a0_3.size : Int) > 2147483647 then (some false) else (some true))
set_option maxHeartbeats 8000000 in
set_option maxRecDepth 100000 in
theorem laws_zzFits8.calls (a0_0 : Int) (a0_1 : ByteArray) (a0_2 : Int) (a0_3 : ByteArray) (a0_4 : Int) (a0_5 : Int) (a0_6 : Int) (a0_7 : Int) (a0_8 : Int) (r : Bool) (w : World) (h : laws_zzFits8.f a0_0 a0_1 a0_2 a0_3 a0_4 a0_5 a0_6 a0_7 a0_8 = some r) :
  Calls Tryz.prog 59 #[.agg #[.int .i64 a0_0, .string a0_1, .int .i64 a0_2, .string a0_3, .int .i64 a0_4, .int .i64 a0_5, .int .i64 a0_6, .int .i64 a0_7, .int .i64 a0_8]] w fun e w' => e = .returned (.bool r) ∧ Below w.heap.size w w' := by
 have hu68 := Tryz.underlying68
 have HB := Aside0.mk (Below.refl w.heap.size w)
 have H : (if (a0_1.size : Int) > 2147483647 then (some false) else (if (a0_3.size : Int) > 2147483647 then (some false) else (some true))) = some r := h
 clear h
 by_cases c2 : (a0_1.size : Int) > 2147483647
 ·rw [if_pos c2] at H
  have c2b0 : decide (2147483647 < (a0_1.size : Int)) = true := decide_eq_true c2
  have c2b1 : decide (2147483647 < a0_1.size) = true := decide_eq_true (by omega)
  clear c2
  obtain rfl := Option.some.inj H
  go_enter Tryz.func59, Tryz.ntmps59
  go_wp2_with (first | ((with_reducible refine gate_dst (N := 1) rfl ?_); refine box_event ?hg (N := 1) ?hd (cs := #[.int .i64 a0_0, .string a0_1, .int .i64 a0_2, .string a0_3, .int .i64 a0_4, .int .i64 a0_5, .int .i64 a0_6, .int .i64 a0_7, .int .i64 a0_8]) (t := 68) ?hr ?_; (case hd => rfl); (case hg => rfl); (case hr => first | (go_simp; done) | (go_simp; rfl)); intro gb101 hg w3 hbox hb; have n0_ := Aside0.mk (below_step (by repeat (first | (with_reducible first | exact HB.out | apply below_alloc | apply pw_below_drewN | apply below_drew1) | exact HB.out)) hb); have n1_ := Aside0.mk (hbox); have n2_ := Aside0.mk ((by rw [hg]; exact (below_size (by repeat (first | (with_reducible first | exact HB.out | apply below_alloc | apply pw_below_drewN | apply below_drew1) | exact HB.out))) : w.heap.size ≤ gb101)); have n3_ := Aside0.mk ((by rw [hg]; exact (below_size (by repeat (first | (with_reducible first | exact HB.out | apply below_alloc | apply pw_below_drewN | apply below_drew1) | exact HB.out))) : w.heap.size ≤ gb101)); clear HB; have HB := n0_; have BK101 := n1_; have GW101 := n2_; have GE101 := n3_; clear n0_ n1_ n2_ n3_; clear hb hbox hg; have hcz4_0 : w3.cell? ⟨gb101, 0, none⟩ = some (.int .i64 a0_0) := (blk_cell BK101.out 0).trans rfl; have hcz4_1 : w3.cell? ⟨gb101, 1, none⟩ = some (.string a0_1) := (blk_cell BK101.out 1).trans rfl; have hcz4_2 : w3.cell? ⟨gb101, 2, none⟩ = some (.int .i64 a0_2) := (blk_cell BK101.out 2).trans rfl; have hcz4_3 : w3.cell? ⟨gb101, 3, none⟩ = some (.string a0_3) := (blk_cell BK101.out 3).trans rfl; have hcz4_4 : w3.cell? ⟨gb101, 4, none⟩ = some (.int .i64 a0_4) := (blk_cell BK101.out 4).trans rfl; have hcz4_5 : w3.cell? ⟨gb101, 5, none⟩ = some (.int .i64 a0_5) := (blk_cell BK101.out 5).trans rfl; have hcz4_6 : w3.cell? ⟨gb101, 6, none⟩ = some (.int .i64 a0_6) := (blk_cell BK101.out 6).trans rfl; have hcz4_7 : w3.cell? ⟨gb101, 7, none⟩ = some (.int .i64 a0_7) := (blk_cell BK101.out 7).trans rfl; have hcz4_8 : w3.cell? ⟨gb101, 8, none⟩ = some (.int .i64 a0_8) := (blk_cell BK101.out 8).trans rfl; have hfz4_0 := blk_frozen BK101.out 0; have hfz4_1 := blk_frozen BK101.out 1; have hfz4_2 := blk_frozen BK101.out 2; have hfz4_3 := blk_frozen BK101.out 3; have hfz4_4 := blk_frozen BK101.out 4; have hfz4_5 := blk_frozen BK101.out 5; have hfz4_6 := blk_frozen BK101.out 6; have hfz4_7 := blk_frozen BK101.out 7; have hfz4_8 := blk_frozen BK101.out 8))
  go_ret
  exact ⟨by first | rfl | (simp [errW_none, errW_some] <;> rfl) | (simp [*, errW_none, errW_some] <;> rfl), by repeat (first | (with_reducible first | exact HB.out | apply below_alloc | apply pw_below_drewN | apply below_drew1 | refine below_set ?_ GE101.out) | exact HB.out)⟩
 ·rw [if_neg c2] at H
  have c2b0 : decide (2147483647 < (a0_1.size : Int)) = false := decide_eq_false c2
  have c2b1 : decide (2147483647 < a0_1.size) = false := decide_eq_false (by omega)
  clear c2
  by_cases c5 : (a0_3.size : Int) > 2147483647
  ·rw [if_pos c5] at H
   have c5b0 : decide (2147483647 < (a0_3.size : Int)) = true := decide_eq_true c5
   have c5b1 : decide (2147483647 < a0_3.size) = true := decide_eq_true (by omega)
   clear c5
   obtain rfl := Option.some.inj H
   go_enter Tryz.func59, Tryz.ntmps59
   go_wp2_with (first | ((with_reducible refine gate_dst (N := 1) rfl ?_); refine box_event ?hg (N := 1) ?hd (cs := #[.int .i64 a0_0, .string a0_1, .int .i64 a0_2, .string a0_3, .int .i64 a0_4, .int .i64 a0_5, .int .i64 a0_6, .int .i64 a0_7, .int .i64 a0_8]) (t := 68) ?hr ?_; (case hd => rfl); (case hg => rfl); (case hr => first | (go_simp; done) | (go_simp; rfl)); intro gb101 hg w6 hbox hb; have n0_ := Aside0.mk (below_step (by repeat (first | (with_reducible first | exact HB.out | apply below_alloc | apply pw_below_drewN | apply below_drew1) | exact HB.out)) hb); have n1_ := Aside0.mk (hbox); have n2_ := Aside0.mk ((by rw [hg]; exact (below_size (by repeat (first | (with_reducible first | exact HB.out | apply below_alloc | apply pw_below_drewN | apply below_drew1) | exact HB.out))) : w.heap.size ≤ gb101)); have n3_ := Aside0.mk ((by rw [hg]; exact (below_size (by repeat (first | (with_reducible first | exact HB.out | apply below_alloc | apply pw_below_drewN | apply below_drew1) | exact HB.out))) : w.heap.size ≤ gb101)); clear HB; have HB := n0_; have BK101 := n1_; have GW101 := n2_; have GE101 := n3_; clear n0_ n1_ n2_ n3_; clear hb hbox hg; have hcz7_0 : w6.cell? ⟨gb101, 0, none⟩ = some (.int .i64 a0_0) := (blk_cell BK101.out 0).trans rfl; have hcz7_1 : w6.cell? ⟨gb101, 1, none⟩ = some (.string a0_1) := (blk_cell BK101.out 1).trans rfl; have hcz7_2 : w6.cell? ⟨gb101, 2, none⟩ = some (.int .i64 a0_2) := (blk_cell BK101.out 2).trans rfl; have hcz7_3 : w6.cell? ⟨gb101, 3, none⟩ = some (.string a0_3) := (blk_cell BK101.out 3).trans rfl; have hcz7_4 : w6.cell? ⟨gb101, 4, none⟩ = some (.int .i64 a0_4) := (blk_cell BK101.out 4).trans rfl; have hcz7_5 : w6.cell? ⟨gb101, 5, none⟩ = some (.int .i64 a0_5) := (blk_cell BK101.out 5).trans rfl; have hcz7_6 : w6.cell? ⟨gb101, 6, none⟩ = some (.int .i64 a0_6) := (blk_cell BK101.out 6).trans rfl; have hcz7_7 : w6.cell? ⟨gb101, 7, none⟩ = some (.int .i64 a0_7) := (blk_cell BK101.out 7).trans rfl; have hcz7_8 : w6.cell? ⟨gb101, 8, none⟩ = some (.int .i64 a0_8) := (blk_cell BK101.out 8).trans rfl; have hfz7_0 := blk_frozen BK101.out 0; have hfz7_1 := blk_frozen BK101.out 1; have hfz7_2 := blk_frozen BK101.out 2; have hfz7_3 := blk_frozen BK101.out 3; have hfz7_4 := blk_frozen BK101.out 4; have hfz7_5 := blk_frozen BK101.out 5; have hfz7_6 := blk_frozen BK101.out 6; have hfz7_7 := blk_frozen BK101.out 7; have hfz7_8 := blk_frozen BK101.out 8))
   go_ret
   exact ⟨by first | rfl | (simp [errW_none, errW_some] <;> rfl) | (simp [*, errW_none, errW_some] <;> rfl), by repeat (first | (with_reducible first | exact HB.out | apply below_alloc | apply pw_below_drewN | apply below_drew1 | refine below_set ?_ GE101.out) | exact HB.out)⟩
  ·rw [if_neg c5] at H
   have c5b0 : decide (2147483647 < (a0_3.size : Int)) = false := decide_eq_false c5
   have c5b1 : decide (2147483647 < a0_3.size) = false := decide_eq_false (by omega)
   clear c5
   obtain rfl := Option.some.inj H
   go_enter Tryz.func59, Tryz.ntmps59
   go_wp2_with (first | ((with_reducible refine gate_dst (N := 1) rfl ?_); refine box_event ?hg (N := 1) ?hd (cs := #[.int .i64 a0_0, .string a0_1, .int .i64 a0_2, .string a0_3, .int .i64 a0_4, .int .i64 a0_5, .int .i64 a0_6, .int .i64 a0_7, .int .i64 a0_8]) (t := 68) ?hr ?_; (case hd => rfl); (case hg => rfl); (case hr => first | (go_simp; done) | (go_simp; rfl)); intro gb101 hg w8 hbox hb; have n0_ := Aside0.mk (below_step (by repeat (first | (with_reducible first | exact HB.out | apply below_alloc | apply pw_below_drewN | apply below_drew1) | exact HB.out)) hb); have n1_ := Aside0.mk (hbox); have n2_ := Aside0.mk ((by rw [hg]; exact (below_size (by repeat (first | (with_reducible first | exact HB.out | apply below_alloc | apply pw_below_drewN | apply below_drew1) | exact HB.out))) : w.heap.size ≤ gb101)); have n3_ := Aside0.mk ((by rw [hg]; exact (below_size (by repeat (first | (with_reducible first | exact HB.out | apply below_alloc | apply pw_below_drewN | apply below_drew1) | exact HB.out))) : w.heap.size ≤ gb101)); clear HB; have HB := n0_; have BK101 := n1_; have GW101 := n2_; have GE101 := n3_; clear n0_ n1_ n2_ n3_; clear hb hbox hg; have hcz9_0 : w8.cell? ⟨gb101, 0, none⟩ = some (.int .i64 a0_0) := (blk_cell BK101.out 0).trans rfl; have hcz9_1 : w8.cell? ⟨gb101, 1, none⟩ = some (.string a0_1) := (blk_cell BK101.out 1).trans rfl; have hcz9_2 : w8.cell? ⟨gb101, 2, none⟩ = some (.int .i64 a0_2) := (blk_cell BK101.out 2).trans rfl; have hcz9_3 : w8.cell? ⟨gb101, 3, none⟩ = some (.string a0_3) := (blk_cell BK101.out 3).trans rfl; have hcz9_4 : w8.cell? ⟨gb101, 4, none⟩ = some (.int .i64 a0_4) := (blk_cell BK101.out 4).trans rfl; have hcz9_5 : w8.cell? ⟨gb101, 5, none⟩ = some (.int .i64 a0_5) := (blk_cell BK101.out 5).trans rfl; have hcz9_6 : w8.cell? ⟨gb101, 6, none⟩ = some (.int .i64 a0_6) := (blk_cell BK101.out 6).trans rfl; have hcz9_7 : w8.cell? ⟨gb101, 7, none⟩ = some (.int .i64 a0_7) := (blk_cell BK101.out 7).trans rfl; have hcz9_8 : w8.cell? ⟨gb101, 8, none⟩ = some (.int .i64 a0_8) := (blk_cell BK101.out 8).trans rfl; have hfz9_0 := blk_frozen BK101.out 0; have hfz9_1 := blk_frozen BK101.out 1; have hfz9_2 := blk_frozen BK101.out 2; have hfz9_3 := blk_frozen BK101.out 3; have hfz9_4 := blk_frozen BK101.out 4; have hfz9_5 := blk_frozen BK101.out 5; have hfz9_6 := blk_frozen BK101.out 6; have hfz9_7 := blk_frozen BK101.out 7; have hfz9_8 := blk_frozen BK101.out 8))
   go_ret
   exact ⟨by first | rfl | (simp [errW_none, errW_some] <;> rfl) | (simp [*, errW_none, errW_some] <;> rfl), by repeat (first | (with_reducible first | exact HB.out | apply below_alloc | apply pw_below_drewN | apply below_drew1 | refine below_set ?_ GE101.out) | exact HB.out)⟩

/-! ### laws_zzFits7: function 29 -/
def laws_zzFits7.l0 : Nat → List (S68) → Int → Int → Option (Bool)
 | 0, _, _, _ => none
 | k + 1, x8, x9, x10 => if x10 < x9 then (if 0 ≤ x10 then (if x10 < (x8.length : Int) then ((laws_zzFits8.f ((rd_T68 x8 x10).f0) ((rd_T68 x8 x10).f1) ((rd_T68 x8 x10).f2) ((rd_T68 x8 x10).f3) ((rd_T68 x8 x10).f4) ((rd_T68 x8 x10).f5) ((rd_T68 x8 x10).f6) ((rd_T68 x8 x10).f7) ((rd_T68 x8 x10).f8)).bind fun t104 => (if t104 = true then (laws_zzFits7.l0 k x8 x9 (wrap64 (x10 + 1))) else (some false))) else (none)) else (none)) else (some true)
def laws_zzFits7.f (k : Nat) (l0 : List (S68)) : Option (Bool) := if (l0.length : Int) > 2147483647 then (some false) else (laws_zzFits7.l0 k l0 (l0.length : Int) 0)
set_option maxHeartbeats 8000000 in
set_option maxRecDepth 100000 in
theorem laws_zzFits7.calls (k : Nat) (A0 : Option Addr) (c0 : Nat) (l0 : List (S68)) (r : Bool) (w : World) (hr0 : Kd.C k68 w A0 l0.length l0) (hc0 : l0.length ≤ c0) (h : laws_zzFits7.f k l0 = some r) :
  Calls Tryz.prog 29 #[.slice A0 l0.length c0] w fun e w' => e = .returned (.bool r) ∧ Below w.heap.size w w' := by
 have hu68 := Tryz.underlying68
 have HR0 := Aside0.mk hr0
 have HC0 := Aside0.mk hc0
 clear hr0 hc0
 have HB := Aside0.mk (Below.refl w.heap.size w)
 have H : (if (l0.length : Int) > 2147483647 then (some false) else (laws_zzFits7.l0 k l0 (l0.length : Int) 0)) = some r := h
 clear h
 by_cases c2 : (l0.length : Int) > 2147483647
 ·rw [if_pos c2] at H
  have c2b0 : decide (2147483647 < (l0.length : Int)) = true := decide_eq_true c2
  have c2b1 : decide (2147483647 < l0.length) = true := decide_eq_true (by omega)
  clear c2
  obtain rfl := Option.some.inj H
  go_enter Tryz.func29, Tryz.ntmps29
  go_wp2
  go_ret
  exact ⟨by first | rfl | (simp [errW_none, errW_some] <;> rfl) | (simp [*, errW_none, errW_some] <;> rfl), by repeat (first | (with_reducible first | exact HB.out | apply below_alloc | apply pw_below_drewN | apply below_drew1) | exact HB.out)⟩
 ·rw [if_neg c2] at H
  have c2b0 : decide (2147483647 < (l0.length : Int)) = false := decide_eq_false c2
  have c2b1 : decide (2147483647 < l0.length) = false := decide_eq_false (by omega)
  clear c2
  have H' := Aside0.mk H
  clear H
  go_enter Tryz.func29, Tryz.ntmps29
  go_wp2
  go_loopg [10] k (fun kq v10 w' => ∃ (x10_1 : Int), v10 = .int .i64 x10_1 ∧ Aside0 (laws_zzFits7.l0 kq l0 (l0.length : Int) x10_1 = some r) ∧ Aside0 (kq ≤ k) ∧ Aside0 (Below w.heap.size w w'))
  case atStart => exact ⟨(0), (by first | rfl | (simp; done) | (simp [*]; done)), H', ⟨Nat.le_refl _⟩, ⟨by repeat (first | (with_reducible first | exact HB.out | apply below_alloc | apply pw_below_drewN | apply below_drew1) | exact HB.out)⟩⟩
  case round =>
   clear H'
   try clear c2
   try clear c2b0
   try clear c2b1
   try clear p2
   obtain ⟨x10_1, rfl, HA, HK1, HB⟩ := hrel
   cases gk with
   | zero => exact absurd HA.out (by simp [laws_zzFits7.l0])
   | succ k1 =>
    have H := HA.out
    clear HA
    simp only [laws_zzFits7.l0] at H
    by_cases c3 : x10_1 < (l0.length : Int)
    ·rw [if_pos c3] at H
     have c3b0 : decide (x10_1 < (l0.length : Int)) = true := decide_eq_true c3
     clear c3
     by_cases c4 : 0 ≤ x10_1
     ·rw [if_pos c4] at H
      have c4b0 : decide (0 ≤ x10_1) = true := decide_eq_true c4
      clear c4
      by_cases c5 : x10_1 < (l0.length : Int)
      ·rw [if_pos c5] at H
       have c5b0 : decide (x10_1 < (l0.length : Int)) = true := decide_eq_true c5
       clear c5
       replace H := Option.bind_eq_some_iff.mp H
       obtain ⟨t104, A60, H⟩ := H
       replace H : (if t104 = true then (laws_zzFits7.l0 k1 l0 (l0.length : Int) (wrap64 (x10_1 + 1))) else (some false)) = some r := H
       have A6 := Aside0.mk A60
       clear A60
       by_cases c7 : t104 = true
       ·subst c7
        have H1 : (laws_zzFits7.l0 k1 l0 (l0.length : Int) (wrap64 (x10_1 + 1))) = some r := by rw [if_pos rfl] at H; exact H
        clear H
        have H := H1
        clear H1
        have H' := Aside0.mk H
        clear H
        have p102 : 0 ≤ (x10_1 : Int) := of_decide_eq_true (by first | (with_reducible assumption) | assumption)
        have q102 : x10_1 < (l0.length : Int) := of_decide_eq_true (by first | (with_reducible assumption) | assumption)
        obtain ⟨ad102, e102, hx102_0, hx102_1, hx102_2, hx102_3, hx102_4, hx102_5, hx102_6, hx102_7, hx102_8⟩ := at_T68 HR0.out x10_1 p102 q102
        cases e102
        replace hx102_0 := (HB.out.cell (World.block_lt_of_cell? w _ hx102_0)).trans hx102_0
        replace hx102_1 := (HB.out.cell (World.block_lt_of_cell? w _ hx102_1)).trans hx102_1
        replace hx102_2 := (HB.out.cell (World.block_lt_of_cell? w _ hx102_2)).trans hx102_2
        replace hx102_3 := (HB.out.cell (World.block_lt_of_cell? w _ hx102_3)).trans hx102_3
        replace hx102_4 := (HB.out.cell (World.block_lt_of_cell? w _ hx102_4)).trans hx102_4
        replace hx102_5 := (HB.out.cell (World.block_lt_of_cell? w _ hx102_5)).trans hx102_5
        replace hx102_6 := (HB.out.cell (World.block_lt_of_cell? w _ hx102_6)).trans hx102_6
        replace hx102_7 := (HB.out.cell (World.block_lt_of_cell? w _ hx102_7)).trans hx102_7
        replace hx102_8 := (HB.out.cell (World.block_lt_of_cell? w _ hx102_8)).trans hx102_8
        replace p102 := eq_true p102
        replace q102 := eq_true q102
        go_wp2_with (first | ((with_reducible refine gate_dst (N := 4) rfl ?_); refine box_event ?hg (N := 4) ?hd (cs := #[.int .i64 0, .string (⟨#[]⟩ : ByteArray), .int .i64 0, .string (⟨#[]⟩ : ByteArray), .int .i64 0, .int .i64 0, .int .i64 0, .int .i64 0, .int .i64 0]) (t := 68) ?hr ?_; (case hd => rfl); (case hg => rfl); (case hr => first | (go_simp; done) | (go_simp; rfl)); intro gb103 hg w8 hbox hb; have n0_ := Aside0.mk (below_step (by repeat (first | (with_reducible first | exact HB.out | apply below_alloc | apply pw_below_drewN | apply below_drew1) | exact HB.out)) hb); have n1_ := Aside0.mk (hbox); have n2_ := Aside0.mk ((by rw [hg]; exact (below_size (by repeat (first | (with_reducible first | exact HB.out | apply below_alloc | apply pw_below_drewN | apply below_drew1) | exact HB.out))) : w.heap.size ≤ gb103)); have n3_ := Aside0.mk ((by rw [hg]; exact (below_size (by repeat (first | (with_reducible first | exact HB.out | apply below_alloc | apply pw_below_drewN | apply below_drew1) | exact HB.out))) : w.heap.size ≤ gb103)); clear HB; have HB := n0_; have BK103 := n1_; have GW103 := n2_; have GE103 := n3_; clear n0_ n1_ n2_ n3_; clear hb hbox hg; have hcz9_0 : w8.cell? ⟨gb103, 0, none⟩ = some (.int .i64 0) := (blk_cell BK103.out 0).trans rfl; have hcz9_1 : w8.cell? ⟨gb103, 1, none⟩ = some (.string (⟨#[]⟩ : ByteArray)) := (blk_cell BK103.out 1).trans rfl; have hcz9_2 : w8.cell? ⟨gb103, 2, none⟩ = some (.int .i64 0) := (blk_cell BK103.out 2).trans rfl; have hcz9_3 : w8.cell? ⟨gb103, 3, none⟩ = some (.string (⟨#[]⟩ : ByteArray)) := (blk_cell BK103.out 3).trans rfl; have hcz9_4 : w8.cell? ⟨gb103, 4, none⟩ = some (.int .i64 0) := (blk_cell BK103.out 4).trans rfl; have hcz9_5 : w8.cell? ⟨gb103, 5, none⟩ = some (.int .i64 0) := (blk_cell BK103.out 5).trans rfl; have hcz9_6 : w8.cell? ⟨gb103, 6, none⟩ = some (.int .i64 0) := (blk_cell BK103.out 6).trans rfl; have hcz9_7 : w8.cell? ⟨gb103, 7, none⟩ = some (.int .i64 0) := (blk_cell BK103.out 7).trans rfl; have hcz9_8 : w8.cell? ⟨gb103, 8, none⟩ = some (.int .i64 0) := (blk_cell BK103.out 8).trans rfl; have hfz9_0 := blk_frozen BK103.out 0; have hfz9_1 := blk_frozen BK103.out 1; have hfz9_2 := blk_frozen BK103.out 2; have hfz9_3 := blk_frozen BK103.out 3; have hfz9_4 := blk_frozen BK103.out 4; have hfz9_5 := blk_frozen BK103.out 5; have hfz9_6 := blk_frozen BK103.out 6; have hfz9_7 := blk_frozen BK103.out 7; have hfz9_8 := blk_frozen BK103.out 8) | ((with_reducible refine gate_callee (f := 59) rfl ?_); refine goesL_ (some 15) rfl rfl Tryz.func59 (by kernel_rfl) rfl #[.agg #[.int .i64 ((rd_T68 l0 x10_1).f0), .string ((rd_T68 l0 x10_1).f1), .int .i64 ((rd_T68 l0 x10_1).f2), .string ((rd_T68 l0 x10_1).f3), .int .i64 ((rd_T68 l0 x10_1).f4), .int .i64 ((rd_T68 l0 x10_1).f5), .int .i64 ((rd_T68 l0 x10_1).f6), .int .i64 ((rd_T68 l0 x10_1).f7), .int .i64 ((rd_T68 l0 x10_1).f8)]] rfl (by (try simp only [List.map_toArray, List.map_cons, List.map_nil]); first | done | rfl | (simp only [List.length_drop, List.length_take]; rfl)) ?_; (with_reducible refine (laws_zzFits8.calls ((rd_T68 l0 x10_1).f0) ((rd_T68 l0 x10_1).f1) ((rd_T68 l0 x10_1).f2) ((rd_T68 l0 x10_1).f3) ((rd_T68 l0 x10_1).f4) ((rd_T68 l0 x10_1).f5) ((rd_T68 l0 x10_1).f6) ((rd_T68 l0 x10_1).f7) ((rd_T68 l0 x10_1).f8) true _ A6.out).mono ?_); rintro e w10 ⟨rfl, hb⟩; refine ⟨_, rfl, ?_⟩; have n0_ := Aside0.mk (blk_below (g := gb103) (o := .cells #[.int .i64 ((rd_T68 l0 x10_1).f0), .string ((rd_T68 l0 x10_1).f1), .int .i64 ((rd_T68 l0 x10_1).f2), .string ((rd_T68 l0 x10_1).f3), .int .i64 ((rd_T68 l0 x10_1).f4), .int .i64 ((rd_T68 l0 x10_1).f5), .int .i64 ((rd_T68 l0 x10_1).f6), .int .i64 ((rd_T68 l0 x10_1).f7), .int .i64 ((rd_T68 l0 x10_1).f8)] 68 (0, 0)) (by (with_reducible repeat (first | refine blk_drewN ?_ _ | refine blk_drew ?_ | refine blk_alloc ?_ _)); refine blk_put (cs := #[.int .i64 ((rd_T68 l0 x10_1).f0), .string ((rd_T68 l0 x10_1).f1), .int .i64 ((rd_T68 l0 x10_1).f2), .string ((rd_T68 l0 x10_1).f3), .int .i64 ((rd_T68 l0 x10_1).f4), .int .i64 ((rd_T68 l0 x10_1).f5), .int .i64 ((rd_T68 l0 x10_1).f6), .int .i64 ((rd_T68 l0 x10_1).f7), .int .i64 0]) ?_ 8 _ rfl; (with_reducible repeat (first | refine blk_drewN ?_ _ | refine blk_drew ?_ | refine blk_alloc ?_ _)); refine blk_put (cs := #[.int .i64 ((rd_T68 l0 x10_1).f0), .string ((rd_T68 l0 x10_1).f1), .int .i64 ((rd_T68 l0 x10_1).f2), .string ((rd_T68 l0 x10_1).f3), .int .i64 ((rd_T68 l0 x10_1).f4), .int .i64 ((rd_T68 l0 x10_1).f5), .int .i64 ((rd_T68 l0 x10_1).f6), .int .i64 0, .int .i64 0]) ?_ 7 _ rfl; (with_reducible repeat (first | refine blk_drewN ?_ _ | refine blk_drew ?_ | refine blk_alloc ?_ _)); refine blk_put (cs := #[.int .i64 ((rd_T68 l0 x10_1).f0), .string ((rd_T68 l0 x10_1).f1), .int .i64 ((rd_T68 l0 x10_1).f2), .string ((rd_T68 l0 x10_1).f3), .int .i64 ((rd_T68 l0 x10_1).f4), .int .i64 ((rd_T68 l0 x10_1).f5), .int .i64 0, .int .i64 0, .int .i64 0]) ?_ 6 _ rfl; (with_reducible repeat (first | refine blk_drewN ?_ _ | refine blk_drew ?_ | refine blk_alloc ?_ _)); refine blk_put (cs := #[.int .i64 ((rd_T68 l0 x10_1).f0), .string ((rd_T68 l0 x10_1).f1), .int .i64 ((rd_T68 l0 x10_1).f2), .string ((rd_T68 l0 x10_1).f3), .int .i64 ((rd_T68 l0 x10_1).f4), .int .i64 0, .int .i64 0, .int .i64 0, .int .i64 0]) ?_ 5 _ rfl; (with_reducible repeat (first | refine blk_drewN ?_ _ | refine blk_drew ?_ | refine blk_alloc ?_ _)); refine blk_put (cs := #[.int .i64 ((rd_T68 l0 x10_1).f0), .string ((rd_T68 l0 x10_1).f1), .int .i64 ((rd_T68 l0 x10_1).f2), .string ((rd_T68 l0 x10_1).f3), .int .i64 0, .int .i64 0, .int .i64 0, .int .i64 0, .int .i64 0]) ?_ 4 _ rfl; (with_reducible repeat (first | refine blk_drewN ?_ _ | refine blk_drew ?_ | refine blk_alloc ?_ _)); refine blk_put (cs := #[.int .i64 ((rd_T68 l0 x10_1).f0), .string ((rd_T68 l0 x10_1).f1), .int .i64 ((rd_T68 l0 x10_1).f2), .string (⟨#[]⟩ : ByteArray), .int .i64 0, .int .i64 0, .int .i64 0, .int .i64 0, .int .i64 0]) ?_ 3 _ rfl; (with_reducible repeat (first | refine blk_drewN ?_ _ | refine blk_drew ?_ | refine blk_alloc ?_ _)); refine blk_put (cs := #[.int .i64 ((rd_T68 l0 x10_1).f0), .string ((rd_T68 l0 x10_1).f1), .int .i64 0, .string (⟨#[]⟩ : ByteArray), .int .i64 0, .int .i64 0, .int .i64 0, .int .i64 0, .int .i64 0]) ?_ 2 _ rfl; (with_reducible repeat (first | refine blk_drewN ?_ _ | refine blk_drew ?_ | refine blk_alloc ?_ _)); refine blk_put (cs := #[.int .i64 ((rd_T68 l0 x10_1).f0), .string (⟨#[]⟩ : ByteArray), .int .i64 0, .string (⟨#[]⟩ : ByteArray), .int .i64 0, .int .i64 0, .int .i64 0, .int .i64 0, .int .i64 0]) ?_ 1 _ rfl; (with_reducible repeat (first | refine blk_drewN ?_ _ | refine blk_drew ?_ | refine blk_alloc ?_ _)); refine blk_put (cs := #[.int .i64 0, .string (⟨#[]⟩ : ByteArray), .int .i64 0, .string (⟨#[]⟩ : ByteArray), .int .i64 0, .int .i64 0, .int .i64 0, .int .i64 0, .int .i64 0]) ?_ 0 _ rfl; (with_reducible repeat (first | refine blk_drewN ?_ _ | refine blk_drew ?_ | refine blk_alloc ?_ _)); exact BK103.out) hb); have n1_ := Aside0.mk (below_step (by repeat (first | (with_reducible first | exact HB.out | apply below_alloc | apply pw_below_drewN | apply below_drew1 | refine below_set ?_ GE103.out) | exact HB.out)) hb); clear BK103; clear HB; have BK103 := n0_; have HB := n1_; clear n0_ n1_; (try clear hb); (try clear hb2); (try clear hk); (try clear hi)))
        go_roundg k1
        case measure => have := HK1.out; omega
        case rel => exact ⟨(wrap64 (x10_1 + 1)), (by first | rfl | (simp; done) | (simp [*]; done)), H', ⟨by have := HK1.out; omega⟩, ⟨by repeat (first | (with_reducible first | exact HB.out | apply below_alloc | apply pw_below_drewN | apply below_drew1 | refine below_set ?_ GE103.out) | exact HB.out)⟩⟩
       ·replace c7 := Bool.eq_false_iff.mpr c7
        subst c7
        have H1 : (some false) = some r := by rw [if_neg (show ¬ (false = true) by decide)] at H; exact H
        clear H
        have H := H1
        clear H1
        obtain rfl := Option.some.inj H
        have p102 : 0 ≤ (x10_1 : Int) := of_decide_eq_true (by first | (with_reducible assumption) | assumption)
        have q102 : x10_1 < (l0.length : Int) := of_decide_eq_true (by first | (with_reducible assumption) | assumption)
        obtain ⟨ad102, e102, hx102_0, hx102_1, hx102_2, hx102_3, hx102_4, hx102_5, hx102_6, hx102_7, hx102_8⟩ := at_T68 HR0.out x10_1 p102 q102
        cases e102
        replace hx102_0 := (HB.out.cell (World.block_lt_of_cell? w _ hx102_0)).trans hx102_0
        replace hx102_1 := (HB.out.cell (World.block_lt_of_cell? w _ hx102_1)).trans hx102_1
        replace hx102_2 := (HB.out.cell (World.block_lt_of_cell? w _ hx102_2)).trans hx102_2
        replace hx102_3 := (HB.out.cell (World.block_lt_of_cell? w _ hx102_3)).trans hx102_3
        replace hx102_4 := (HB.out.cell (World.block_lt_of_cell? w _ hx102_4)).trans hx102_4
        replace hx102_5 := (HB.out.cell (World.block_lt_of_cell? w _ hx102_5)).trans hx102_5
        replace hx102_6 := (HB.out.cell (World.block_lt_of_cell? w _ hx102_6)).trans hx102_6
        replace hx102_7 := (HB.out.cell (World.block_lt_of_cell? w _ hx102_7)).trans hx102_7
        replace hx102_8 := (HB.out.cell (World.block_lt_of_cell? w _ hx102_8)).trans hx102_8
        replace p102 := eq_true p102
        replace q102 := eq_true q102
        go_wp2_with (first | ((with_reducible refine gate_dst (N := 4) rfl ?_); refine box_event ?hg (N := 4) ?hd (cs := #[.int .i64 0, .string (⟨#[]⟩ : ByteArray), .int .i64 0, .string (⟨#[]⟩ : ByteArray), .int .i64 0, .int .i64 0, .int .i64 0, .int .i64 0, .int .i64 0]) (t := 68) ?hr ?_; (case hd => rfl); (case hg => rfl); (case hr => first | (go_simp; done) | (go_simp; rfl)); intro gb103 hg w11 hbox hb; have n0_ := Aside0.mk (below_step (by repeat (first | (with_reducible first | exact HB.out | apply below_alloc | apply pw_below_drewN | apply below_drew1) | exact HB.out)) hb); have n1_ := Aside0.mk (hbox); have n2_ := Aside0.mk ((by rw [hg]; exact (below_size (by repeat (first | (with_reducible first | exact HB.out | apply below_alloc | apply pw_below_drewN | apply below_drew1) | exact HB.out))) : w.heap.size ≤ gb103)); have n3_ := Aside0.mk ((by rw [hg]; exact (below_size (by repeat (first | (with_reducible first | exact HB.out | apply below_alloc | apply pw_below_drewN | apply below_drew1) | exact HB.out))) : w.heap.size ≤ gb103)); clear HB; have HB := n0_; have BK103 := n1_; have GW103 := n2_; have GE103 := n3_; clear n0_ n1_ n2_ n3_; clear hb hbox hg; have hcz12_0 : w11.cell? ⟨gb103, 0, none⟩ = some (.int .i64 0) := (blk_cell BK103.out 0).trans rfl; have hcz12_1 : w11.cell? ⟨gb103, 1, none⟩ = some (.string (⟨#[]⟩ : ByteArray)) := (blk_cell BK103.out 1).trans rfl; have hcz12_2 : w11.cell? ⟨gb103, 2, none⟩ = some (.int .i64 0) := (blk_cell BK103.out 2).trans rfl; have hcz12_3 : w11.cell? ⟨gb103, 3, none⟩ = some (.string (⟨#[]⟩ : ByteArray)) := (blk_cell BK103.out 3).trans rfl; have hcz12_4 : w11.cell? ⟨gb103, 4, none⟩ = some (.int .i64 0) := (blk_cell BK103.out 4).trans rfl; have hcz12_5 : w11.cell? ⟨gb103, 5, none⟩ = some (.int .i64 0) := (blk_cell BK103.out 5).trans rfl; have hcz12_6 : w11.cell? ⟨gb103, 6, none⟩ = some (.int .i64 0) := (blk_cell BK103.out 6).trans rfl; have hcz12_7 : w11.cell? ⟨gb103, 7, none⟩ = some (.int .i64 0) := (blk_cell BK103.out 7).trans rfl; have hcz12_8 : w11.cell? ⟨gb103, 8, none⟩ = some (.int .i64 0) := (blk_cell BK103.out 8).trans rfl; have hfz12_0 := blk_frozen BK103.out 0; have hfz12_1 := blk_frozen BK103.out 1; have hfz12_2 := blk_frozen BK103.out 2; have hfz12_3 := blk_frozen BK103.out 3; have hfz12_4 := blk_frozen BK103.out 4; have hfz12_5 := blk_frozen BK103.out 5; have hfz12_6 := blk_frozen BK103.out 6; have hfz12_7 := blk_frozen BK103.out 7; have hfz12_8 := blk_frozen BK103.out 8) | ((with_reducible refine gate_callee (f := 59) rfl ?_); refine goesL_ (some 15) rfl rfl Tryz.func59 (by kernel_rfl) rfl #[.agg #[.int .i64 ((rd_T68 l0 x10_1).f0), .string ((rd_T68 l0 x10_1).f1), .int .i64 ((rd_T68 l0 x10_1).f2), .string ((rd_T68 l0 x10_1).f3), .int .i64 ((rd_T68 l0 x10_1).f4), .int .i64 ((rd_T68 l0 x10_1).f5), .int .i64 ((rd_T68 l0 x10_1).f6), .int .i64 ((rd_T68 l0 x10_1).f7), .int .i64 ((rd_T68 l0 x10_1).f8)]] rfl (by (try simp only [List.map_toArray, List.map_cons, List.map_nil]); first | done | rfl | (simp only [List.length_drop, List.length_take]; rfl)) ?_; (with_reducible refine (laws_zzFits8.calls ((rd_T68 l0 x10_1).f0) ((rd_T68 l0 x10_1).f1) ((rd_T68 l0 x10_1).f2) ((rd_T68 l0 x10_1).f3) ((rd_T68 l0 x10_1).f4) ((rd_T68 l0 x10_1).f5) ((rd_T68 l0 x10_1).f6) ((rd_T68 l0 x10_1).f7) ((rd_T68 l0 x10_1).f8) false _ A6.out).mono ?_); rintro e w13 ⟨rfl, hb⟩; refine ⟨_, rfl, ?_⟩; have n0_ := Aside0.mk (blk_below (g := gb103) (o := .cells #[.int .i64 ((rd_T68 l0 x10_1).f0), .string ((rd_T68 l0 x10_1).f1), .int .i64 ((rd_T68 l0 x10_1).f2), .string ((rd_T68 l0 x10_1).f3), .int .i64 ((rd_T68 l0 x10_1).f4), .int .i64 ((rd_T68 l0 x10_1).f5), .int .i64 ((rd_T68 l0 x10_1).f6), .int .i64 ((rd_T68 l0 x10_1).f7), .int .i64 ((rd_T68 l0 x10_1).f8)] 68 (0, 0)) (by (with_reducible repeat (first | refine blk_drewN ?_ _ | refine blk_drew ?_ | refine blk_alloc ?_ _)); refine blk_put (cs := #[.int .i64 ((rd_T68 l0 x10_1).f0), .string ((rd_T68 l0 x10_1).f1), .int .i64 ((rd_T68 l0 x10_1).f2), .string ((rd_T68 l0 x10_1).f3), .int .i64 ((rd_T68 l0 x10_1).f4), .int .i64 ((rd_T68 l0 x10_1).f5), .int .i64 ((rd_T68 l0 x10_1).f6), .int .i64 ((rd_T68 l0 x10_1).f7), .int .i64 0]) ?_ 8 _ rfl; (with_reducible repeat (first | refine blk_drewN ?_ _ | refine blk_drew ?_ | refine blk_alloc ?_ _)); refine blk_put (cs := #[.int .i64 ((rd_T68 l0 x10_1).f0), .string ((rd_T68 l0 x10_1).f1), .int .i64 ((rd_T68 l0 x10_1).f2), .string ((rd_T68 l0 x10_1).f3), .int .i64 ((rd_T68 l0 x10_1).f4), .int .i64 ((rd_T68 l0 x10_1).f5), .int .i64 ((rd_T68 l0 x10_1).f6), .int .i64 0, .int .i64 0]) ?_ 7 _ rfl; (with_reducible repeat (first | refine blk_drewN ?_ _ | refine blk_drew ?_ | refine blk_alloc ?_ _)); refine blk_put (cs := #[.int .i64 ((rd_T68 l0 x10_1).f0), .string ((rd_T68 l0 x10_1).f1), .int .i64 ((rd_T68 l0 x10_1).f2), .string ((rd_T68 l0 x10_1).f3), .int .i64 ((rd_T68 l0 x10_1).f4), .int .i64 ((rd_T68 l0 x10_1).f5), .int .i64 0, .int .i64 0, .int .i64 0]) ?_ 6 _ rfl; (with_reducible repeat (first | refine blk_drewN ?_ _ | refine blk_drew ?_ | refine blk_alloc ?_ _)); refine blk_put (cs := #[.int .i64 ((rd_T68 l0 x10_1).f0), .string ((rd_T68 l0 x10_1).f1), .int .i64 ((rd_T68 l0 x10_1).f2), .string ((rd_T68 l0 x10_1).f3), .int .i64 ((rd_T68 l0 x10_1).f4), .int .i64 0, .int .i64 0, .int .i64 0, .int .i64 0]) ?_ 5 _ rfl; (with_reducible repeat (first | refine blk_drewN ?_ _ | refine blk_drew ?_ | refine blk_alloc ?_ _)); refine blk_put (cs := #[.int .i64 ((rd_T68 l0 x10_1).f0), .string ((rd_T68 l0 x10_1).f1), .int .i64 ((rd_T68 l0 x10_1).f2), .string ((rd_T68 l0 x10_1).f3), .int .i64 0, .int .i64 0, .int .i64 0, .int .i64 0, .int .i64 0]) ?_ 4 _ rfl; (with_reducible repeat (first | refine blk_drewN ?_ _ | refine blk_drew ?_ | refine blk_alloc ?_ _)); refine blk_put (cs := #[.int .i64 ((rd_T68 l0 x10_1).f0), .string ((rd_T68 l0 x10_1).f1), .int .i64 ((rd_T68 l0 x10_1).f2), .string (⟨#[]⟩ : ByteArray), .int .i64 0, .int .i64 0, .int .i64 0, .int .i64 0, .int .i64 0]) ?_ 3 _ rfl; (with_reducible repeat (first | refine blk_drewN ?_ _ | refine blk_drew ?_ | refine blk_alloc ?_ _)); refine blk_put (cs := #[.int .i64 ((rd_T68 l0 x10_1).f0), .string ((rd_T68 l0 x10_1).f1), .int .i64 0, .string (⟨#[]⟩ : ByteArray), .int .i64 0, .int .i64 0, .int .i64 0, .int .i64 0, .int .i64 0]) ?_ 2 _ rfl; (with_reducible repeat (first | refine blk_drewN ?_ _ | refine blk_drew ?_ | refine blk_alloc ?_ _)); refine blk_put (cs := #[.int .i64 ((rd_T68 l0 x10_1).f0), .string (⟨#[]⟩ : ByteArray), .int .i64 0, .string (⟨#[]⟩ : ByteArray), .int .i64 0, .int .i64 0, .int .i64 0, .int .i64 0, .int .i64 0]) ?_ 1 _ rfl; (with_reducible repeat (first | refine blk_drewN ?_ _ | refine blk_drew ?_ | refine blk_alloc ?_ _)); refine blk_put (cs := #[.int .i64 0, .string (⟨#[]⟩ : ByteArray), .int .i64 0, .string (⟨#[]⟩ : ByteArray), .int .i64 0, .int .i64 0, .int .i64 0, .int .i64 0, .int .i64 0]) ?_ 0 _ rfl; (with_reducible repeat (first | refine blk_drewN ?_ _ | refine blk_drew ?_ | refine blk_alloc ?_ _)); exact BK103.out) hb); have n1_ := Aside0.mk (below_step (by repeat (first | (with_reducible first | exact HB.out | apply below_alloc | apply pw_below_drewN | apply below_drew1 | refine below_set ?_ GE103.out) | exact HB.out)) hb); clear BK103; clear HB; have BK103 := n0_; have HB := n1_; clear n0_ n1_; (try clear hb); (try clear hb2); (try clear hk); (try clear hi)))
        go_ret
        exact ⟨by first | rfl | (simp [errW_none, errW_some] <;> rfl) | (simp [*, errW_none, errW_some] <;> rfl), by repeat (first | (with_reducible first | exact HB.out | apply below_alloc | apply pw_below_drewN | apply below_drew1 | refine below_set ?_ GE103.out) | exact HB.out)⟩
      ·rw [if_neg c5] at H
       exact absurd H (by simp)
     ·rw [if_neg c4] at H
      exact absurd H (by simp)
    ·rw [if_neg c3] at H
     have c3b0 : decide (x10_1 < (l0.length : Int)) = false := decide_eq_false c3
     clear c3
     obtain rfl := Option.some.inj H
     go_wp2
     go_ret
     exact ⟨by first | rfl | (simp [errW_none, errW_some] <;> rfl) | (simp [*, errW_none, errW_some] <;> rfl), by repeat (first | (with_reducible first | exact HB.out | apply below_alloc | apply pw_below_drewN | apply below_drew1) | exact HB.out)⟩

/-! ### laws_zzFits6: function 22 -/
def laws_zzFits6.l0 : Nat → List (List (S68)) → Int → Int → Option (Bool)
 | 0, _, _, _ => none
 | k + 1, x8, x9, x10 => if x10 < x9 then (if 0 ≤ x10 then (if x10 < (x8.length : Int) then ((laws_zzFits7.f k (rd_L3 x8 x10)).bind fun t106 => (if t106 = true then (laws_zzFits6.l0 k x8 x9 (wrap64 (x10 + 1))) else (some false))) else (none)) else (none)) else (some true)
def laws_zzFits6.f (k : Nat) (l0 : List (List (S68))) : Option (Bool) := if (l0.length : Int) > 2147483647 then (some false) else (laws_zzFits6.l0 k l0 (l0.length : Int) 0)
set_option maxHeartbeats 8000000 in
set_option maxRecDepth 100000 in
theorem laws_zzFits6.calls (k : Nat) (A0 : Option Addr) (c0 : Nat) (l0 : List (List (S68))) (r : Bool) (w : World) (hr0 : Kd.C (Kd.slice 68 k68) w A0 l0.length l0) (hc0 : l0.length ≤ c0) (h : laws_zzFits6.f k l0 = some r) :
  Calls Tryz.prog 22 #[.slice A0 l0.length c0] w fun e w' => e = .returned (.bool r) ∧ Below w.heap.size w w' := by
 have HR0 := Aside0.mk hr0
 have HC0 := Aside0.mk hc0
 clear hr0 hc0
 have HB := Aside0.mk (Below.refl w.heap.size w)
 have H : (if (l0.length : Int) > 2147483647 then (some false) else (laws_zzFits6.l0 k l0 (l0.length : Int) 0)) = some r := h
 clear h
 by_cases c2 : (l0.length : Int) > 2147483647
 ·rw [if_pos c2] at H
  have c2b0 : decide (2147483647 < (l0.length : Int)) = true := decide_eq_true c2
  have c2b1 : decide (2147483647 < l0.length) = true := decide_eq_true (by omega)
  clear c2
  obtain rfl := Option.some.inj H
  go_enter Tryz.func22, Tryz.ntmps22
  go_wp2
  go_ret
  exact ⟨by first | rfl | (simp [errW_none, errW_some] <;> rfl) | (simp [*, errW_none, errW_some] <;> rfl), by repeat (first | (with_reducible first | exact HB.out | apply below_alloc | apply pw_below_drewN | apply below_drew1) | exact HB.out)⟩
 ·rw [if_neg c2] at H
  have c2b0 : decide (2147483647 < (l0.length : Int)) = false := decide_eq_false c2
  have c2b1 : decide (2147483647 < l0.length) = false := decide_eq_false (by omega)
  clear c2
  have H' := Aside0.mk H
  clear H
  go_enter Tryz.func22, Tryz.ntmps22
  go_wp2
  go_loopg [10] k (fun kq v10 w' => ∃ (x10_1 : Int), v10 = .int .i64 x10_1 ∧ Aside0 (laws_zzFits6.l0 kq l0 (l0.length : Int) x10_1 = some r) ∧ Aside0 (kq ≤ k) ∧ Aside0 (Below w.heap.size w w'))
  case atStart => exact ⟨(0), (by first | rfl | (simp; done) | (simp [*]; done)), H', ⟨Nat.le_refl _⟩, ⟨by repeat (first | (with_reducible first | exact HB.out | apply below_alloc | apply pw_below_drewN | apply below_drew1) | exact HB.out)⟩⟩
  case round =>
   clear H'
   try clear c2
   try clear c2b0
   try clear c2b1
   try clear p2
   obtain ⟨x10_1, rfl, HA, HK1, HB⟩ := hrel
   cases gk with
   | zero => exact absurd HA.out (by simp [laws_zzFits6.l0])
   | succ k1 =>
    have H := HA.out
    clear HA
    simp only [laws_zzFits6.l0] at H
    by_cases c3 : x10_1 < (l0.length : Int)
    ·rw [if_pos c3] at H
     have c3b0 : decide (x10_1 < (l0.length : Int)) = true := decide_eq_true c3
     clear c3
     by_cases c4 : 0 ≤ x10_1
     ·rw [if_pos c4] at H
      have c4b0 : decide (0 ≤ x10_1) = true := decide_eq_true c4
      clear c4
      by_cases c5 : x10_1 < (l0.length : Int)
      ·rw [if_pos c5] at H
       have c5b0 : decide (x10_1 < (l0.length : Int)) = true := decide_eq_true c5
       clear c5
       replace H := Option.bind_eq_some_iff.mp H
       obtain ⟨t106, A60, H⟩ := H
       replace H : (if t106 = true then (laws_zzFits6.l0 k1 l0 (l0.length : Int) (wrap64 (x10_1 + 1))) else (some false)) = some r := H
       have A6 := Aside0.mk A60
       clear A60
       by_cases c7 : t106 = true
       ·subst c7
        have H1 : (laws_zzFits6.l0 k1 l0 (l0.length : Int) (wrap64 (x10_1 + 1))) = some r := by rw [if_pos rfl] at H; exact H
        clear H
        have H := H1
        clear H1
        have H' := Aside0.mk H
        clear H
        have p105 : 0 ≤ (x10_1 : Int) := of_decide_eq_true (by first | (with_reducible assumption) | assumption)
        have q105 : x10_1 < (l0.length : Int) := of_decide_eq_true (by first | (with_reducible assumption) | assumption)
        obtain ⟨ad105, A105_0, c105_0, e105, hx105_0, hl105_0, hi105_0⟩ := at_L3 HR0.out x10_1 p105 q105
        cases e105
        replace hx105_0 := (HB.out.cell (World.block_lt_of_cell? w _ hx105_0)).trans hx105_0
        have HR105_0 := Aside0.mk hi105_0
        have HC105_0 := Aside0.mk hl105_0
        clear hi105_0 hl105_0
        replace p105 := eq_true p105
        replace q105 := eq_true q105
        go_wp2_with (first | ((with_reducible refine gate_callee (f := 29) rfl ?_); refine goesL_ (some 15) rfl rfl Tryz.func29 (by kernel_rfl) rfl #[.slice A105_0 (rd_L3 l0 x10_1).length c105_0] rfl (by (try simp only [List.map_toArray, List.map_cons, List.map_nil]); first | done | rfl | (simp only [List.length_drop, List.length_take]; rfl)) ?_; (with_reducible refine (laws_zzFits7.calls k1 _ _ (rd_L3 l0 x10_1) true _ ?side1 ?side2 A6.out).mono ?_); (case side1 => repeat (first | exact (Kd.C_below HR105_0.out HB.out) | (with_reducible refine Kd.C_alloc ?_ _) | (with_reducible refine Kd.C_drewN ?_ _) | (with_reducible refine Kd.C_drew ?_))); (case side2 => exact HC105_0.out); rintro e w8 ⟨rfl, hb⟩; refine ⟨_, rfl, ?_⟩; have n0_ := Aside0.mk (below_step (by repeat (first | (with_reducible first | exact HB.out | apply below_alloc | apply pw_below_drewN | apply below_drew1) | exact HB.out)) hb); clear HB; have HB := n0_; clear n0_; (try clear hb); (try clear hb2); (try clear hk); (try clear hi)))
        go_roundg k1
        case measure => have := HK1.out; omega
        case rel => exact ⟨(wrap64 (x10_1 + 1)), (by first | rfl | (simp; done) | (simp [*]; done)), H', ⟨by have := HK1.out; omega⟩, ⟨by repeat (first | (with_reducible first | exact HB.out | apply below_alloc | apply pw_below_drewN | apply below_drew1) | exact HB.out)⟩⟩
       ·replace c7 := Bool.eq_false_iff.mpr c7
        subst c7
        have H1 : (some false) = some r := by rw [if_neg (show ¬ (false = true) by decide)] at H; exact H
        clear H
        have H := H1
        clear H1
        obtain rfl := Option.some.inj H
        have p105 : 0 ≤ (x10_1 : Int) := of_decide_eq_true (by first | (with_reducible assumption) | assumption)
        have q105 : x10_1 < (l0.length : Int) := of_decide_eq_true (by first | (with_reducible assumption) | assumption)
        obtain ⟨ad105, A105_0, c105_0, e105, hx105_0, hl105_0, hi105_0⟩ := at_L3 HR0.out x10_1 p105 q105
        cases e105
        replace hx105_0 := (HB.out.cell (World.block_lt_of_cell? w _ hx105_0)).trans hx105_0
        have HR105_0 := Aside0.mk hi105_0
        have HC105_0 := Aside0.mk hl105_0
        clear hi105_0 hl105_0
        replace p105 := eq_true p105
        replace q105 := eq_true q105
        go_wp2_with (first | ((with_reducible refine gate_callee (f := 29) rfl ?_); refine goesL_ (some 15) rfl rfl Tryz.func29 (by kernel_rfl) rfl #[.slice A105_0 (rd_L3 l0 x10_1).length c105_0] rfl (by (try simp only [List.map_toArray, List.map_cons, List.map_nil]); first | done | rfl | (simp only [List.length_drop, List.length_take]; rfl)) ?_; (with_reducible refine (laws_zzFits7.calls k1 _ _ (rd_L3 l0 x10_1) false _ ?side1 ?side2 A6.out).mono ?_); (case side1 => repeat (first | exact (Kd.C_below HR105_0.out HB.out) | (with_reducible refine Kd.C_alloc ?_ _) | (with_reducible refine Kd.C_drewN ?_ _) | (with_reducible refine Kd.C_drew ?_))); (case side2 => exact HC105_0.out); rintro e w9 ⟨rfl, hb⟩; refine ⟨_, rfl, ?_⟩; have n0_ := Aside0.mk (below_step (by repeat (first | (with_reducible first | exact HB.out | apply below_alloc | apply pw_below_drewN | apply below_drew1) | exact HB.out)) hb); clear HB; have HB := n0_; clear n0_; (try clear hb); (try clear hb2); (try clear hk); (try clear hi)))
        go_ret
        exact ⟨by first | rfl | (simp [errW_none, errW_some] <;> rfl) | (simp [*, errW_none, errW_some] <;> rfl), by repeat (first | (with_reducible first | exact HB.out | apply below_alloc | apply pw_below_drewN | apply below_drew1) | exact HB.out)⟩
      ·rw [if_neg c5] at H
       exact absurd H (by simp)
     ·rw [if_neg c4] at H
      exact absurd H (by simp)
    ·rw [if_neg c3] at H
     have c3b0 : decide (x10_1 < (l0.length : Int)) = false := decide_eq_false c3
     clear c3
     obtain rfl := Option.some.inj H
     go_wp2
     go_ret
     exact ⟨by first | rfl | (simp [errW_none, errW_some] <;> rfl) | (simp [*, errW_none, errW_some] <;> rfl), by repeat (first | (with_reducible first | exact HB.out | apply below_alloc | apply pw_below_drewN | apply below_drew1) | exact HB.out)⟩

/-! ### spec_Size: function 50 -/
def spec_Size.l0 : Nat → Int → List (S68) → Int → Int → Option (Int)
 | 0, _, _, _, _ => none
 | k + 1, x3, x6, x7, x8 => if x8 < x7 then (if 0 ≤ x8 then (if x8 < (x6.length : Int) then (spec_Size.l0 k (wrap64 (x3 + ((rd_T68 x6 x8).f5))) x6 x7 (wrap64 (x8 + 1))) else (none)) else (none)) else (some x3)
def spec_Size.f (k : Nat) (l0 : List (S68)) : Option (Int) := spec_Size.l0 k 0 l0 (l0.length : Int) 0
set_option maxHeartbeats 8000000 in
set_option maxRecDepth 100000 in
theorem spec_Size.calls (k : Nat) (A0 : Option Addr) (c0 : Nat) (l0 : List (S68)) (r : Int) (w : World) (hr0 : Kd.C k68 w A0 l0.length l0) (hc0 : l0.length ≤ c0) (h : spec_Size.f k l0 = some r) :
  Calls Tryz.prog 50 #[.slice A0 l0.length c0] w fun e w' => e = .returned (.int .i64 r) ∧ Below w.heap.size w w' := by
 have hu68 := Tryz.underlying68
 have HR0 := Aside0.mk hr0
 have HC0 := Aside0.mk hc0
 clear hr0 hc0
 have HB := Aside0.mk (Below.refl w.heap.size w)
 have H : (spec_Size.l0 k 0 l0 (l0.length : Int) 0) = some r := h
 clear h
 have H' := Aside0.mk H
 clear H
 go_enter Tryz.func50, Tryz.ntmps50
 go_wp2
 go_loopg [3, 8] k (fun kq v3 v8 w' => ∃ (x3_1 : Int) (x8_1 : Int), v3 = .int .i64 x3_1 ∧ v8 = .int .i64 x8_1 ∧ Aside0 (spec_Size.l0 kq x3_1 l0 (l0.length : Int) x8_1 = some r) ∧ Aside0 (kq ≤ k) ∧ Aside0 (Below w.heap.size w w'))
 case atStart => exact ⟨(0), (0), (by first | rfl | (simp; done) | (simp [*]; done)), (by first | rfl | (simp; done) | (simp [*]; done)), H', ⟨Nat.le_refl _⟩, ⟨by repeat (first | (with_reducible first | exact HB.out | apply below_alloc | apply pw_below_drewN | apply below_drew1) | exact HB.out)⟩⟩
 case round =>
  clear H'
  obtain ⟨x3_1, x8_1, rfl, rfl, HA, HK1, HB⟩ := hrel
  cases gk with
  | zero => exact absurd HA.out (by simp [spec_Size.l0])
  | succ k1 =>
   have H := HA.out
   clear HA
   simp only [spec_Size.l0] at H
   by_cases c2 : x8_1 < (l0.length : Int)
   ·rw [if_pos c2] at H
    have c2b0 : decide (x8_1 < (l0.length : Int)) = true := decide_eq_true c2
    clear c2
    by_cases c3 : 0 ≤ x8_1
    ·rw [if_pos c3] at H
     have c3b0 : decide (0 ≤ x8_1) = true := decide_eq_true c3
     clear c3
     by_cases c4 : x8_1 < (l0.length : Int)
     ·rw [if_pos c4] at H
      have c4b0 : decide (x8_1 < (l0.length : Int)) = true := decide_eq_true c4
      clear c4
      have H' := Aside0.mk H
      clear H
      have p107 : 0 ≤ (x8_1 : Int) := of_decide_eq_true (by first | (with_reducible assumption) | assumption)
      have q107 : x8_1 < (l0.length : Int) := of_decide_eq_true (by first | (with_reducible assumption) | assumption)
      obtain ⟨ad107, e107, hx107_0, hx107_1, hx107_2, hx107_3, hx107_4, hx107_5, hx107_6, hx107_7, hx107_8⟩ := at_T68 HR0.out x8_1 p107 q107
      cases e107
      replace hx107_0 := (HB.out.cell (World.block_lt_of_cell? w _ hx107_0)).trans hx107_0
      replace hx107_1 := (HB.out.cell (World.block_lt_of_cell? w _ hx107_1)).trans hx107_1
      replace hx107_2 := (HB.out.cell (World.block_lt_of_cell? w _ hx107_2)).trans hx107_2
      replace hx107_3 := (HB.out.cell (World.block_lt_of_cell? w _ hx107_3)).trans hx107_3
      replace hx107_4 := (HB.out.cell (World.block_lt_of_cell? w _ hx107_4)).trans hx107_4
      replace hx107_5 := (HB.out.cell (World.block_lt_of_cell? w _ hx107_5)).trans hx107_5
      replace hx107_6 := (HB.out.cell (World.block_lt_of_cell? w _ hx107_6)).trans hx107_6
      replace hx107_7 := (HB.out.cell (World.block_lt_of_cell? w _ hx107_7)).trans hx107_7
      replace hx107_8 := (HB.out.cell (World.block_lt_of_cell? w _ hx107_8)).trans hx107_8
      replace p107 := eq_true p107
      replace q107 := eq_true q107
      go_wp2_with (first | ((with_reducible refine gate_dst (N := 5) rfl ?_); refine box_event ?hg (N := 5) ?hd (cs := #[.int .i64 0, .string (⟨#[]⟩ : ByteArray), .int .i64 0, .string (⟨#[]⟩ : ByteArray), .int .i64 0, .int .i64 0, .int .i64 0, .int .i64 0, .int .i64 0]) (t := 68) ?hr ?_; (case hd => rfl); (case hg => rfl); (case hr => first | (go_simp; done) | (go_simp; rfl)); intro gb108 hg w5 hbox hb; have n0_ := Aside0.mk (below_step (by repeat (first | (with_reducible first | exact HB.out | apply below_alloc | apply pw_below_drewN | apply below_drew1) | exact HB.out)) hb); have n1_ := Aside0.mk (hbox); have n2_ := Aside0.mk ((by rw [hg]; exact (below_size (by repeat (first | (with_reducible first | exact HB.out | apply below_alloc | apply pw_below_drewN | apply below_drew1) | exact HB.out))) : w.heap.size ≤ gb108)); have n3_ := Aside0.mk ((by rw [hg]; exact (below_size (by repeat (first | (with_reducible first | exact HB.out | apply below_alloc | apply pw_below_drewN | apply below_drew1) | exact HB.out))) : w.heap.size ≤ gb108)); clear HB; have HB := n0_; have BK108 := n1_; have GW108 := n2_; have GE108 := n3_; clear n0_ n1_ n2_ n3_; clear hb hbox hg; have hcz6_0 : w5.cell? ⟨gb108, 0, none⟩ = some (.int .i64 0) := (blk_cell BK108.out 0).trans rfl; have hcz6_1 : w5.cell? ⟨gb108, 1, none⟩ = some (.string (⟨#[]⟩ : ByteArray)) := (blk_cell BK108.out 1).trans rfl; have hcz6_2 : w5.cell? ⟨gb108, 2, none⟩ = some (.int .i64 0) := (blk_cell BK108.out 2).trans rfl; have hcz6_3 : w5.cell? ⟨gb108, 3, none⟩ = some (.string (⟨#[]⟩ : ByteArray)) := (blk_cell BK108.out 3).trans rfl; have hcz6_4 : w5.cell? ⟨gb108, 4, none⟩ = some (.int .i64 0) := (blk_cell BK108.out 4).trans rfl; have hcz6_5 : w5.cell? ⟨gb108, 5, none⟩ = some (.int .i64 0) := (blk_cell BK108.out 5).trans rfl; have hcz6_6 : w5.cell? ⟨gb108, 6, none⟩ = some (.int .i64 0) := (blk_cell BK108.out 6).trans rfl; have hcz6_7 : w5.cell? ⟨gb108, 7, none⟩ = some (.int .i64 0) := (blk_cell BK108.out 7).trans rfl; have hcz6_8 : w5.cell? ⟨gb108, 8, none⟩ = some (.int .i64 0) := (blk_cell BK108.out 8).trans rfl; have hfz6_0 := blk_frozen BK108.out 0; have hfz6_1 := blk_frozen BK108.out 1; have hfz6_2 := blk_frozen BK108.out 2; have hfz6_3 := blk_frozen BK108.out 3; have hfz6_4 := blk_frozen BK108.out 4; have hfz6_5 := blk_frozen BK108.out 5; have hfz6_6 := blk_frozen BK108.out 6; have hfz6_7 := blk_frozen BK108.out 7; have hfz6_8 := blk_frozen BK108.out 8))
      go_roundg k1
      case measure => have := HK1.out; omega
      case rel => exact ⟨(wrap64 (x3_1 + ((rd_T68 l0 x8_1).f5))), (wrap64 (x8_1 + 1)), (by first | rfl | (simp; done) | (simp [*]; done)), (by first | rfl | (simp; done) | (simp [*]; done)), H', ⟨by have := HK1.out; omega⟩, ⟨by repeat (first | (with_reducible first | exact HB.out | apply below_alloc | apply pw_below_drewN | apply below_drew1 | refine below_set ?_ GE108.out) | exact HB.out)⟩⟩
     ·rw [if_neg c4] at H
      exact absurd H (by simp)
    ·rw [if_neg c3] at H
     exact absurd H (by simp)
   ·rw [if_neg c2] at H
    have c2b0 : decide (x8_1 < (l0.length : Int)) = false := decide_eq_false c2
    clear c2
    obtain rfl := Option.some.inj H
    go_wp2
    go_ret
    exact ⟨by first | rfl | (simp [errW_none, errW_some] <;> rfl) | (simp [*, errW_none, errW_some] <;> rfl), by repeat (first | (with_reducible first | exact HB.out | apply below_alloc | apply pw_below_drewN | apply below_drew1) | exact HB.out)⟩

/-! ### spec_Has: function 52 -/
def spec_Has.l0 : Nat → Int → List Int → Int → Int → Option (Bool)
 | 0, _, _, _, _ => none
 | k + 1, x1, x7, x8, x9 => if x9 < x8 then (if 0 ≤ x9 then (if x9 < (x7.length : Int) then (if (rd x7 x9) = x1 then (some true) else (spec_Has.l0 k x1 x7 x8 (wrap64 (x9 + 1)))) else (none)) else (none)) else (some false)
def spec_Has.f (k : Nat) (l0 : List Int) (a1 : Int) : Option (Bool) := spec_Has.l0 k a1 l0 (l0.length : Int) 0
set_option maxHeartbeats 8000000 in
set_option maxRecDepth 100000 in
theorem spec_Has.calls (k : Nat) (A0 : Option Addr) (c0 : Nat) (l0 : List Int) (a1 : Int) (r : Bool) (w : World) (hr0 : Kd.C (Kd.int .i64) w A0 l0.length l0) (hc0 : l0.length ≤ c0) (h : spec_Has.f k l0 a1 = some r) :
  Calls Tryz.prog 52 #[.slice A0 l0.length c0, .int .i64 a1] w fun e w' => e = .returned (.bool r) ∧ Drawn0 w w' := by
 have HR0 := Aside0.mk hr0
 have HC0 := Aside0.mk hc0
 clear hr0 hc0
 have H : (spec_Has.l0 k a1 l0 (l0.length : Int) 0) = some r := h
 clear h
 have H' := Aside0.mk H
 clear H
 go_enter Tryz.func52, Tryz.ntmps52
 go_wp2
 go_loopg [9] k (fun kq v9 w' => ∃ (x9_1 : Int), v9 = .int .i64 x9_1 ∧ Aside0 (spec_Has.l0 kq a1 l0 (l0.length : Int) x9_1 = some r) ∧ Aside0 (kq ≤ k) ∧ Drawn0 w w')
 case atStart => exact ⟨(0), (by first | rfl | (simp; done) | (simp [*]; done)), H', ⟨Nat.le_refl _⟩, by repeat (first | exact Drawn0.refl _ | apply Drawn0.step)⟩
 case round =>
  clear H'
  try clear p2
  obtain ⟨x9_1, rfl, HA, HK1, ⟨m1, rfl⟩⟩ := hrel
  cases gk with
  | zero => exact absurd HA.out (by simp [spec_Has.l0])
  | succ k1 =>
   have H := HA.out
   clear HA
   simp only [spec_Has.l0] at H
   by_cases c3 : x9_1 < (l0.length : Int)
   ·rw [if_pos c3] at H
    have c3b0 : decide (x9_1 < (l0.length : Int)) = true := decide_eq_true c3
    clear c3
    by_cases c4 : 0 ≤ x9_1
    ·rw [if_pos c4] at H
     have c4b0 : decide (0 ≤ x9_1) = true := decide_eq_true c4
     clear c4
     by_cases c5 : x9_1 < (l0.length : Int)
     ·rw [if_pos c5] at H
      have c5b0 : decide (x9_1 < (l0.length : Int)) = true := decide_eq_true c5
      clear c5
      by_cases c6 : (rd l0 x9_1) = a1
      ·rw [if_pos c6] at H
       have c6b0 : ((rd l0 x9_1) == a1) = true := beq_iff_eq.mpr c6
       have c6b1 : ((rd l0 x9_1) != a1) = false := bne_eq_false_iff_eq.mpr c6
       clear c6
       obtain rfl := Option.some.inj H
       have p109 : 0 ≤ (x9_1 : Int) := of_decide_eq_true (by first | (with_reducible assumption) | assumption)
       have q109 : x9_1 < (l0.length : Int) := of_decide_eq_true (by first | (with_reducible assumption) | assumption)
       obtain ⟨ad109, e109, hx109_0⟩ := Kd.at_int HR0.out x9_1 p109 q109
       cases e109
       replace p109 := eq_true p109
       replace q109 := eq_true q109
       go_wp2
       go_ret
       exact ⟨by first | rfl | (simp; done) | (simp [*]; done), by repeat (first | exact Drawn0.refl _ | apply Drawn0.step)⟩
      ·rw [if_neg c6] at H
       have c6b0 : ((rd l0 x9_1) == a1) = false := beq_eq_false_iff_ne.mpr c6
       have c6b1 : ((rd l0 x9_1) != a1) = true := bne_iff_ne.mpr c6
       have H' := Aside0.mk H
       clear H
       have p109 : 0 ≤ (x9_1 : Int) := of_decide_eq_true (by first | (with_reducible assumption) | assumption)
       have q109 : x9_1 < (l0.length : Int) := of_decide_eq_true (by first | (with_reducible assumption) | assumption)
       obtain ⟨ad109, e109, hx109_0⟩ := Kd.at_int HR0.out x9_1 p109 q109
       cases e109
       replace p109 := eq_true p109
       replace q109 := eq_true q109
       go_wp2
       go_roundg k1
       case measure => have := HK1.out; omega
       case rel => exact ⟨(wrap64 (x9_1 + 1)), (by first | rfl | (simp; done) | (simp [*]; done)), H', ⟨by have := HK1.out; omega⟩, by repeat (first | exact Drawn0.refl _ | apply Drawn0.step)⟩
     ·rw [if_neg c5] at H
      exact absurd H (by simp)
    ·rw [if_neg c4] at H
     exact absurd H (by simp)
   ·rw [if_neg c3] at H
    have c3b0 : decide (x9_1 < (l0.length : Int)) = false := decide_eq_false c3
    clear c3
    obtain rfl := Option.some.inj H
    go_wp2
    go_ret
    exact ⟨by first | rfl | (simp; done) | (simp [*]; done), by repeat (first | exact Drawn0.refl _ | apply Drawn0.step)⟩

/-! ### spec_Within: function 46 -/
def spec_Within.f (a0 : Int) (a1 : Int) (a2 : Int) : Option (Bool) := if a0 ≥ a1 then (some (decide (a0 ≤ a2))) else (some false)
set_option maxHeartbeats 8000000 in
set_option maxRecDepth 100000 in
theorem spec_Within.calls (a0 : Int) (a1 : Int) (a2 : Int) (r : Bool) (w : World) (h : spec_Within.f a0 a1 a2 = some r) :
  Calls Tryz.prog 46 #[.int .i64 a0, .int .i64 a1, .int .i64 a2] w fun e w' => e = .returned (.bool r) ∧ Drawn0 w w' := by
 have H : (if a0 ≥ a1 then (some (decide (a0 ≤ a2))) else (some false)) = some r := h
 clear h
 by_cases c4 : a0 ≥ a1
 ·rw [if_pos c4] at H
  have c4b0 : decide (a1 ≤ a0) = true := decide_eq_true c4
  clear c4
  obtain rfl := Option.some.inj H
  go_enter Tryz.func46, Tryz.ntmps46
  go_wp2
  go_ret
  exact ⟨by first | rfl | (simp; done) | (simp [*]; done), by repeat (first | exact Drawn0.refl _ | apply Drawn0.step)⟩
 ·rw [if_neg c4] at H
  have c4b0 : decide (a1 ≤ a0) = false := decide_eq_false c4
  clear c4
  obtain rfl := Option.some.inj H
  go_enter Tryz.func46, Tryz.ntmps46
  go_wp2
  go_ret
  exact ⟨by first | rfl | (simp; done) | (simp [*]; done), by repeat (first | exact Drawn0.refl _ | apply Drawn0.step)⟩

/-! ### spec_OptionsOk: function 53 -/
def spec_OptionsOk.f (a0_0 : Int) (a0_1 : Int) (a0_2 : Int) (a0_3 : Int) (a0_4 : Int) (a0_5 : Int) (a0_6 : Int) (a0_7 : Int) : Option (Bool) := (spec_Within.f a0_0 2 7).bind fun t111 => (if t111 = true then ((spec_Within.f a0_1 2 100).bind fun t112 => (if t112 = true then ((spec_Within.f a0_2 1 10).bind fun t113 => (if t113 = true then ((spec_Within.f a0_3 1 100).bind fun t114 => (if t114 = true then ((spec_Within.f a0_4 1 1099511627776).bind fun t115 => (if t115 = true then ((spec_Within.f a0_5 1 1073741824).bind fun t116 => (if t116 = true then ((spec_Within.f a0_6 1 1073741824).bind fun t117 => (if t117 = true then ((spec_Within.f a0_7 0 1099511627776).bind fun t118 => (some t118)) else (some false))) else (some false))) else (some false))) else (some false))) else (some false))) else (some false))) else (some false))
set_option maxHeartbeats 8000000 in
set_option maxRecDepth 100000 in
theorem spec_OptionsOk.calls (a0_0 : Int) (a0_1 : Int) (a0_2 : Int) (a0_3 : Int) (a0_4 : Int) (a0_5 : Int) (a0_6 : Int) (a0_7 : Int) (r : Bool) (w : World) (h : spec_OptionsOk.f a0_0 a0_1 a0_2 a0_3 a0_4 a0_5 a0_6 a0_7 = some r) :
  Calls Tryz.prog 53 #[.agg #[.int .i64 a0_0, .int .i64 a0_1, .int .i64 a0_2, .int .i64 a0_3, .int .i64 a0_4, .int .i64 a0_5, .int .i64 a0_6, .int .i64 a0_7]] w fun e w' => e = .returned (.bool r) ∧ Below w.heap.size w w' := by
 have hu24 := Tryz.underlying24
 have HB := Aside0.mk (Below.refl w.heap.size w)
 have H : ((spec_Within.f a0_0 2 7).bind fun t111 => (if t111 = true then ((spec_Within.f a0_1 2 100).bind fun t112 => (if t112 = true then ((spec_Within.f a0_2 1 10).bind fun t113 => (if t113 = true then ((spec_Within.f a0_3 1 100).bind fun t114 => (if t114 = true then ((spec_Within.f a0_4 1 1099511627776).bind fun t115 => (if t115 = true then ((spec_Within.f a0_5 1 1073741824).bind fun t116 => (if t116 = true then ((spec_Within.f a0_6 1 1073741824).bind fun t117 => (if t117 = true then ((spec_Within.f a0_7 0 1099511627776).bind fun t118 => (some t118)) else (some false))) else (some false))) else (some false))) else (some false))) else (some false))) else (some false))) else (some false))) = some r := h
 clear h
 replace H := Option.bind_eq_some_iff.mp H
 obtain ⟨t111, A20, H⟩ := H
 replace H : (if t111 = true then ((spec_Within.f a0_1 2 100).bind fun t112 => (if t112 = true then ((spec_Within.f a0_2 1 10).bind fun t113 => (if t113 = true then ((spec_Within.f a0_3 1 100).bind fun t114 => (if t114 = true then ((spec_Within.f a0_4 1 1099511627776).bind fun t115 => (if t115 = true then ((spec_Within.f a0_5 1 1073741824).bind fun t116 => (if t116 = true then ((spec_Within.f a0_6 1 1073741824).bind fun t117 => (if t117 = true then ((spec_Within.f a0_7 0 1099511627776).bind fun t118 => (some t118)) else (some false))) else (some false))) else (some false))) else (some false))) else (some false))) else (some false))) else (some false)) = some r := H
 have A2 := Aside0.mk A20
 clear A20
 by_cases c3 : t111 = true
 ·subst c3
  have H1 : ((spec_Within.f a0_1 2 100).bind fun t112 => (if t112 = true then ((spec_Within.f a0_2 1 10).bind fun t113 => (if t113 = true then ((spec_Within.f a0_3 1 100).bind fun t114 => (if t114 = true then ((spec_Within.f a0_4 1 1099511627776).bind fun t115 => (if t115 = true then ((spec_Within.f a0_5 1 1073741824).bind fun t116 => (if t116 = true then ((spec_Within.f a0_6 1 1073741824).bind fun t117 => (if t117 = true then ((spec_Within.f a0_7 0 1099511627776).bind fun t118 => (some t118)) else (some false))) else (some false))) else (some false))) else (some false))) else (some false))) else (some false))) = some r := by rw [if_pos rfl] at H; exact H
  clear H
  have H := H1
  clear H1
  replace H := Option.bind_eq_some_iff.mp H
  obtain ⟨t112, A40, H⟩ := H
  replace H : (if t112 = true then ((spec_Within.f a0_2 1 10).bind fun t113 => (if t113 = true then ((spec_Within.f a0_3 1 100).bind fun t114 => (if t114 = true then ((spec_Within.f a0_4 1 1099511627776).bind fun t115 => (if t115 = true then ((spec_Within.f a0_5 1 1073741824).bind fun t116 => (if t116 = true then ((spec_Within.f a0_6 1 1073741824).bind fun t117 => (if t117 = true then ((spec_Within.f a0_7 0 1099511627776).bind fun t118 => (some t118)) else (some false))) else (some false))) else (some false))) else (some false))) else (some false))) else (some false)) = some r := H
  have A4 := Aside0.mk A40
  clear A40
  by_cases c5 : t112 = true
  ·subst c5
   have H1 : ((spec_Within.f a0_2 1 10).bind fun t113 => (if t113 = true then ((spec_Within.f a0_3 1 100).bind fun t114 => (if t114 = true then ((spec_Within.f a0_4 1 1099511627776).bind fun t115 => (if t115 = true then ((spec_Within.f a0_5 1 1073741824).bind fun t116 => (if t116 = true then ((spec_Within.f a0_6 1 1073741824).bind fun t117 => (if t117 = true then ((spec_Within.f a0_7 0 1099511627776).bind fun t118 => (some t118)) else (some false))) else (some false))) else (some false))) else (some false))) else (some false))) = some r := by rw [if_pos rfl] at H; exact H
   clear H
   have H := H1
   clear H1
   replace H := Option.bind_eq_some_iff.mp H
   obtain ⟨t113, A60, H⟩ := H
   replace H : (if t113 = true then ((spec_Within.f a0_3 1 100).bind fun t114 => (if t114 = true then ((spec_Within.f a0_4 1 1099511627776).bind fun t115 => (if t115 = true then ((spec_Within.f a0_5 1 1073741824).bind fun t116 => (if t116 = true then ((spec_Within.f a0_6 1 1073741824).bind fun t117 => (if t117 = true then ((spec_Within.f a0_7 0 1099511627776).bind fun t118 => (some t118)) else (some false))) else (some false))) else (some false))) else (some false))) else (some false)) = some r := H
   have A6 := Aside0.mk A60
   clear A60
   by_cases c7 : t113 = true
   ·subst c7
    have H1 : ((spec_Within.f a0_3 1 100).bind fun t114 => (if t114 = true then ((spec_Within.f a0_4 1 1099511627776).bind fun t115 => (if t115 = true then ((spec_Within.f a0_5 1 1073741824).bind fun t116 => (if t116 = true then ((spec_Within.f a0_6 1 1073741824).bind fun t117 => (if t117 = true then ((spec_Within.f a0_7 0 1099511627776).bind fun t118 => (some t118)) else (some false))) else (some false))) else (some false))) else (some false))) = some r := by rw [if_pos rfl] at H; exact H
    clear H
    have H := H1
    clear H1
    replace H := Option.bind_eq_some_iff.mp H
    obtain ⟨t114, A80, H⟩ := H
    replace H : (if t114 = true then ((spec_Within.f a0_4 1 1099511627776).bind fun t115 => (if t115 = true then ((spec_Within.f a0_5 1 1073741824).bind fun t116 => (if t116 = true then ((spec_Within.f a0_6 1 1073741824).bind fun t117 => (if t117 = true then ((spec_Within.f a0_7 0 1099511627776).bind fun t118 => (some t118)) else (some false))) else (some false))) else (some false))) else (some false)) = some r := H
    have A8 := Aside0.mk A80
    clear A80
    by_cases c9 : t114 = true
    ·subst c9
     have H1 : ((spec_Within.f a0_4 1 1099511627776).bind fun t115 => (if t115 = true then ((spec_Within.f a0_5 1 1073741824).bind fun t116 => (if t116 = true then ((spec_Within.f a0_6 1 1073741824).bind fun t117 => (if t117 = true then ((spec_Within.f a0_7 0 1099511627776).bind fun t118 => (some t118)) else (some false))) else (some false))) else (some false))) = some r := by rw [if_pos rfl] at H; exact H
     clear H
     have H := H1
     clear H1
     replace H := Option.bind_eq_some_iff.mp H
     obtain ⟨t115, A100, H⟩ := H
     replace H : (if t115 = true then ((spec_Within.f a0_5 1 1073741824).bind fun t116 => (if t116 = true then ((spec_Within.f a0_6 1 1073741824).bind fun t117 => (if t117 = true then ((spec_Within.f a0_7 0 1099511627776).bind fun t118 => (some t118)) else (some false))) else (some false))) else (some false)) = some r := H
     have A10 := Aside0.mk A100
     clear A100
     by_cases c11 : t115 = true
     ·subst c11
      have H1 : ((spec_Within.f a0_5 1 1073741824).bind fun t116 => (if t116 = true then ((spec_Within.f a0_6 1 1073741824).bind fun t117 => (if t117 = true then ((spec_Within.f a0_7 0 1099511627776).bind fun t118 => (some t118)) else (some false))) else (some false))) = some r := by rw [if_pos rfl] at H; exact H
      clear H
      have H := H1
      clear H1
      replace H := Option.bind_eq_some_iff.mp H
      obtain ⟨t116, A120, H⟩ := H
      replace H : (if t116 = true then ((spec_Within.f a0_6 1 1073741824).bind fun t117 => (if t117 = true then ((spec_Within.f a0_7 0 1099511627776).bind fun t118 => (some t118)) else (some false))) else (some false)) = some r := H
      have A12 := Aside0.mk A120
      clear A120
      by_cases c13 : t116 = true
      ·subst c13
       have H1 : ((spec_Within.f a0_6 1 1073741824).bind fun t117 => (if t117 = true then ((spec_Within.f a0_7 0 1099511627776).bind fun t118 => (some t118)) else (some false))) = some r := by rw [if_pos rfl] at H; exact H
       clear H
       have H := H1
       clear H1
       replace H := Option.bind_eq_some_iff.mp H
       obtain ⟨t117, A140, H⟩ := H
       replace H : (if t117 = true then ((spec_Within.f a0_7 0 1099511627776).bind fun t118 => (some t118)) else (some false)) = some r := H
       have A14 := Aside0.mk A140
       clear A140
       by_cases c15 : t117 = true
       ·subst c15
        have H1 : ((spec_Within.f a0_7 0 1099511627776).bind fun t118 => (some t118)) = some r := by rw [if_pos rfl] at H; exact H
        clear H
        have H := H1
        clear H1
        replace H := Option.bind_eq_some_iff.mp H
        obtain ⟨t118, A160, H⟩ := H
        replace H : (some t118) = some r := H
        have A16 := Aside0.mk A160
        clear A160
        obtain rfl := Option.some.inj H
        go_enter Tryz.func53, Tryz.ntmps53
        go_wp2_with (first | ((with_reducible refine gate_dst (N := 1) rfl ?_); refine box_event ?hg (N := 1) ?hd (cs := #[.int .i64 a0_0, .int .i64 a0_1, .int .i64 a0_2, .int .i64 a0_3, .int .i64 a0_4, .int .i64 a0_5, .int .i64 a0_6, .int .i64 a0_7]) (t := 24) ?hr ?_; (case hd => rfl); (case hg => rfl); (case hr => first | (go_simp; done) | (go_simp; rfl)); intro gb110 hg w17 hbox hb; have n0_ := Aside0.mk (below_step (by repeat (first | (with_reducible first | exact HB.out | apply below_alloc | apply pw_below_drewN | apply below_drew1) | exact HB.out)) hb); have n1_ := Aside0.mk (hbox); have n2_ := Aside0.mk ((by rw [hg]; exact (below_size (by repeat (first | (with_reducible first | exact HB.out | apply below_alloc | apply pw_below_drewN | apply below_drew1) | exact HB.out))) : w.heap.size ≤ gb110)); have n3_ := Aside0.mk ((by rw [hg]; exact (below_size (by repeat (first | (with_reducible first | exact HB.out | apply below_alloc | apply pw_below_drewN | apply below_drew1) | exact HB.out))) : w.heap.size ≤ gb110)); clear HB; have HB := n0_; have BK110 := n1_; have GW110 := n2_; have GE110 := n3_; clear n0_ n1_ n2_ n3_; clear hb hbox hg; have hcz18_0 : w17.cell? ⟨gb110, 0, none⟩ = some (.int .i64 a0_0) := (blk_cell BK110.out 0).trans rfl; have hcz18_1 : w17.cell? ⟨gb110, 1, none⟩ = some (.int .i64 a0_1) := (blk_cell BK110.out 1).trans rfl; have hcz18_2 : w17.cell? ⟨gb110, 2, none⟩ = some (.int .i64 a0_2) := (blk_cell BK110.out 2).trans rfl; have hcz18_3 : w17.cell? ⟨gb110, 3, none⟩ = some (.int .i64 a0_3) := (blk_cell BK110.out 3).trans rfl; have hcz18_4 : w17.cell? ⟨gb110, 4, none⟩ = some (.int .i64 a0_4) := (blk_cell BK110.out 4).trans rfl; have hcz18_5 : w17.cell? ⟨gb110, 5, none⟩ = some (.int .i64 a0_5) := (blk_cell BK110.out 5).trans rfl; have hcz18_6 : w17.cell? ⟨gb110, 6, none⟩ = some (.int .i64 a0_6) := (blk_cell BK110.out 6).trans rfl; have hcz18_7 : w17.cell? ⟨gb110, 7, none⟩ = some (.int .i64 a0_7) := (blk_cell BK110.out 7).trans rfl; have hfz18_0 := blk_frozen BK110.out 0; have hfz18_1 := blk_frozen BK110.out 1; have hfz18_2 := blk_frozen BK110.out 2; have hfz18_3 := blk_frozen BK110.out 3; have hfz18_4 := blk_frozen BK110.out 4; have hfz18_5 := blk_frozen BK110.out 5; have hfz18_6 := blk_frozen BK110.out 6; have hfz18_7 := blk_frozen BK110.out 7) | ((with_reducible refine gate_callee (f := 46) rfl ?_); refine goesL_ (some 5) rfl rfl Tryz.func46 (by kernel_rfl) rfl #[.int .i64 a0_0, .int .i64 2, .int .i64 7] rfl (by (try simp only [List.map_toArray, List.map_cons, List.map_nil]); first | done | rfl | (simp only [List.length_drop, List.length_take]; rfl)) ?_; (with_reducible refine (spec_Within.calls a0_0 2 7 true _ A2.out).mono ?_); rintro e w' ⟨rfl, ⟨nd, rfl⟩⟩; refine ⟨_, rfl, ?_⟩) | (go_at_call 46; (with_reducible refine (spec_Within.calls a0_1 2 100 true _ A4.out).mono ?_); rintro e w' ⟨rfl, ⟨nd, rfl⟩⟩) | (go_at_call 46; (with_reducible refine (spec_Within.calls a0_2 1 10 true _ A6.out).mono ?_); rintro e w' ⟨rfl, ⟨nd, rfl⟩⟩) | (go_at_call 46; (with_reducible refine (spec_Within.calls a0_3 1 100 true _ A8.out).mono ?_); rintro e w' ⟨rfl, ⟨nd, rfl⟩⟩) | (go_at_call 46; (with_reducible refine (spec_Within.calls a0_4 1 1099511627776 true _ A10.out).mono ?_); rintro e w' ⟨rfl, ⟨nd, rfl⟩⟩) | (go_at_call 46; (with_reducible refine (spec_Within.calls a0_5 1 1073741824 true _ A12.out).mono ?_); rintro e w' ⟨rfl, ⟨nd, rfl⟩⟩) | (go_at_call 46; (with_reducible refine (spec_Within.calls a0_6 1 1073741824 true _ A14.out).mono ?_); rintro e w' ⟨rfl, ⟨nd, rfl⟩⟩) | (go_at_call 46; (with_reducible refine (spec_Within.calls a0_7 0 1099511627776 t118 _ A16.out).mono ?_); rintro e w' ⟨rfl, ⟨nd, rfl⟩⟩))
        go_ret
        exact ⟨by first | rfl | (simp [errW_none, errW_some] <;> rfl) | (simp [*, errW_none, errW_some] <;> rfl), by repeat (first | (with_reducible first | exact HB.out | apply below_alloc | apply pw_below_drewN | apply below_drew1 | refine below_set ?_ GE110.out) | exact HB.out)⟩
       ·replace c15 := Bool.eq_false_iff.mpr c15
        subst c15
        have H1 : (some false) = some r := by rw [if_neg (show ¬ (false = true) by decide)] at H; exact H
        clear H
        have H := H1
        clear H1
        obtain rfl := Option.some.inj H
        go_enter Tryz.func53, Tryz.ntmps53
        go_wp2_with (first | ((with_reducible refine gate_dst (N := 1) rfl ?_); refine box_event ?hg (N := 1) ?hd (cs := #[.int .i64 a0_0, .int .i64 a0_1, .int .i64 a0_2, .int .i64 a0_3, .int .i64 a0_4, .int .i64 a0_5, .int .i64 a0_6, .int .i64 a0_7]) (t := 24) ?hr ?_; (case hd => rfl); (case hg => rfl); (case hr => first | (go_simp; done) | (go_simp; rfl)); intro gb110 hg w19 hbox hb; have n0_ := Aside0.mk (below_step (by repeat (first | (with_reducible first | exact HB.out | apply below_alloc | apply pw_below_drewN | apply below_drew1) | exact HB.out)) hb); have n1_ := Aside0.mk (hbox); have n2_ := Aside0.mk ((by rw [hg]; exact (below_size (by repeat (first | (with_reducible first | exact HB.out | apply below_alloc | apply pw_below_drewN | apply below_drew1) | exact HB.out))) : w.heap.size ≤ gb110)); have n3_ := Aside0.mk ((by rw [hg]; exact (below_size (by repeat (first | (with_reducible first | exact HB.out | apply below_alloc | apply pw_below_drewN | apply below_drew1) | exact HB.out))) : w.heap.size ≤ gb110)); clear HB; have HB := n0_; have BK110 := n1_; have GW110 := n2_; have GE110 := n3_; clear n0_ n1_ n2_ n3_; clear hb hbox hg; have hcz20_0 : w19.cell? ⟨gb110, 0, none⟩ = some (.int .i64 a0_0) := (blk_cell BK110.out 0).trans rfl; have hcz20_1 : w19.cell? ⟨gb110, 1, none⟩ = some (.int .i64 a0_1) := (blk_cell BK110.out 1).trans rfl; have hcz20_2 : w19.cell? ⟨gb110, 2, none⟩ = some (.int .i64 a0_2) := (blk_cell BK110.out 2).trans rfl; have hcz20_3 : w19.cell? ⟨gb110, 3, none⟩ = some (.int .i64 a0_3) := (blk_cell BK110.out 3).trans rfl; have hcz20_4 : w19.cell? ⟨gb110, 4, none⟩ = some (.int .i64 a0_4) := (blk_cell BK110.out 4).trans rfl; have hcz20_5 : w19.cell? ⟨gb110, 5, none⟩ = some (.int .i64 a0_5) := (blk_cell BK110.out 5).trans rfl; have hcz20_6 : w19.cell? ⟨gb110, 6, none⟩ = some (.int .i64 a0_6) := (blk_cell BK110.out 6).trans rfl; have hcz20_7 : w19.cell? ⟨gb110, 7, none⟩ = some (.int .i64 a0_7) := (blk_cell BK110.out 7).trans rfl; have hfz20_0 := blk_frozen BK110.out 0; have hfz20_1 := blk_frozen BK110.out 1; have hfz20_2 := blk_frozen BK110.out 2; have hfz20_3 := blk_frozen BK110.out 3; have hfz20_4 := blk_frozen BK110.out 4; have hfz20_5 := blk_frozen BK110.out 5; have hfz20_6 := blk_frozen BK110.out 6; have hfz20_7 := blk_frozen BK110.out 7) | ((with_reducible refine gate_callee (f := 46) rfl ?_); refine goesL_ (some 5) rfl rfl Tryz.func46 (by kernel_rfl) rfl #[.int .i64 a0_0, .int .i64 2, .int .i64 7] rfl (by (try simp only [List.map_toArray, List.map_cons, List.map_nil]); first | done | rfl | (simp only [List.length_drop, List.length_take]; rfl)) ?_; (with_reducible refine (spec_Within.calls a0_0 2 7 true _ A2.out).mono ?_); rintro e w' ⟨rfl, ⟨nd, rfl⟩⟩; refine ⟨_, rfl, ?_⟩) | (go_at_call 46; (with_reducible refine (spec_Within.calls a0_1 2 100 true _ A4.out).mono ?_); rintro e w' ⟨rfl, ⟨nd, rfl⟩⟩) | (go_at_call 46; (with_reducible refine (spec_Within.calls a0_2 1 10 true _ A6.out).mono ?_); rintro e w' ⟨rfl, ⟨nd, rfl⟩⟩) | (go_at_call 46; (with_reducible refine (spec_Within.calls a0_3 1 100 true _ A8.out).mono ?_); rintro e w' ⟨rfl, ⟨nd, rfl⟩⟩) | (go_at_call 46; (with_reducible refine (spec_Within.calls a0_4 1 1099511627776 true _ A10.out).mono ?_); rintro e w' ⟨rfl, ⟨nd, rfl⟩⟩) | (go_at_call 46; (with_reducible refine (spec_Within.calls a0_5 1 1073741824 true _ A12.out).mono ?_); rintro e w' ⟨rfl, ⟨nd, rfl⟩⟩) | (go_at_call 46; (with_reducible refine (spec_Within.calls a0_6 1 1073741824 false _ A14.out).mono ?_); rintro e w' ⟨rfl, ⟨nd, rfl⟩⟩))
        go_ret
        exact ⟨by first | rfl | (simp [errW_none, errW_some] <;> rfl) | (simp [*, errW_none, errW_some] <;> rfl), by repeat (first | (with_reducible first | exact HB.out | apply below_alloc | apply pw_below_drewN | apply below_drew1 | refine below_set ?_ GE110.out) | exact HB.out)⟩
      ·replace c13 := Bool.eq_false_iff.mpr c13
       subst c13
       have H1 : (some false) = some r := by rw [if_neg (show ¬ (false = true) by decide)] at H; exact H
       clear H
       have H := H1
       clear H1
       obtain rfl := Option.some.inj H
       go_enter Tryz.func53, Tryz.ntmps53
       go_wp2_with (first | ((with_reducible refine gate_dst (N := 1) rfl ?_); refine box_event ?hg (N := 1) ?hd (cs := #[.int .i64 a0_0, .int .i64 a0_1, .int .i64 a0_2, .int .i64 a0_3, .int .i64 a0_4, .int .i64 a0_5, .int .i64 a0_6, .int .i64 a0_7]) (t := 24) ?hr ?_; (case hd => rfl); (case hg => rfl); (case hr => first | (go_simp; done) | (go_simp; rfl)); intro gb110 hg w21 hbox hb; have n0_ := Aside0.mk (below_step (by repeat (first | (with_reducible first | exact HB.out | apply below_alloc | apply pw_below_drewN | apply below_drew1) | exact HB.out)) hb); have n1_ := Aside0.mk (hbox); have n2_ := Aside0.mk ((by rw [hg]; exact (below_size (by repeat (first | (with_reducible first | exact HB.out | apply below_alloc | apply pw_below_drewN | apply below_drew1) | exact HB.out))) : w.heap.size ≤ gb110)); have n3_ := Aside0.mk ((by rw [hg]; exact (below_size (by repeat (first | (with_reducible first | exact HB.out | apply below_alloc | apply pw_below_drewN | apply below_drew1) | exact HB.out))) : w.heap.size ≤ gb110)); clear HB; have HB := n0_; have BK110 := n1_; have GW110 := n2_; have GE110 := n3_; clear n0_ n1_ n2_ n3_; clear hb hbox hg; have hcz22_0 : w21.cell? ⟨gb110, 0, none⟩ = some (.int .i64 a0_0) := (blk_cell BK110.out 0).trans rfl; have hcz22_1 : w21.cell? ⟨gb110, 1, none⟩ = some (.int .i64 a0_1) := (blk_cell BK110.out 1).trans rfl; have hcz22_2 : w21.cell? ⟨gb110, 2, none⟩ = some (.int .i64 a0_2) := (blk_cell BK110.out 2).trans rfl; have hcz22_3 : w21.cell? ⟨gb110, 3, none⟩ = some (.int .i64 a0_3) := (blk_cell BK110.out 3).trans rfl; have hcz22_4 : w21.cell? ⟨gb110, 4, none⟩ = some (.int .i64 a0_4) := (blk_cell BK110.out 4).trans rfl; have hcz22_5 : w21.cell? ⟨gb110, 5, none⟩ = some (.int .i64 a0_5) := (blk_cell BK110.out 5).trans rfl; have hcz22_6 : w21.cell? ⟨gb110, 6, none⟩ = some (.int .i64 a0_6) := (blk_cell BK110.out 6).trans rfl; have hcz22_7 : w21.cell? ⟨gb110, 7, none⟩ = some (.int .i64 a0_7) := (blk_cell BK110.out 7).trans rfl; have hfz22_0 := blk_frozen BK110.out 0; have hfz22_1 := blk_frozen BK110.out 1; have hfz22_2 := blk_frozen BK110.out 2; have hfz22_3 := blk_frozen BK110.out 3; have hfz22_4 := blk_frozen BK110.out 4; have hfz22_5 := blk_frozen BK110.out 5; have hfz22_6 := blk_frozen BK110.out 6; have hfz22_7 := blk_frozen BK110.out 7) | ((with_reducible refine gate_callee (f := 46) rfl ?_); refine goesL_ (some 5) rfl rfl Tryz.func46 (by kernel_rfl) rfl #[.int .i64 a0_0, .int .i64 2, .int .i64 7] rfl (by (try simp only [List.map_toArray, List.map_cons, List.map_nil]); first | done | rfl | (simp only [List.length_drop, List.length_take]; rfl)) ?_; (with_reducible refine (spec_Within.calls a0_0 2 7 true _ A2.out).mono ?_); rintro e w' ⟨rfl, ⟨nd, rfl⟩⟩; refine ⟨_, rfl, ?_⟩) | (go_at_call 46; (with_reducible refine (spec_Within.calls a0_1 2 100 true _ A4.out).mono ?_); rintro e w' ⟨rfl, ⟨nd, rfl⟩⟩) | (go_at_call 46; (with_reducible refine (spec_Within.calls a0_2 1 10 true _ A6.out).mono ?_); rintro e w' ⟨rfl, ⟨nd, rfl⟩⟩) | (go_at_call 46; (with_reducible refine (spec_Within.calls a0_3 1 100 true _ A8.out).mono ?_); rintro e w' ⟨rfl, ⟨nd, rfl⟩⟩) | (go_at_call 46; (with_reducible refine (spec_Within.calls a0_4 1 1099511627776 true _ A10.out).mono ?_); rintro e w' ⟨rfl, ⟨nd, rfl⟩⟩) | (go_at_call 46; (with_reducible refine (spec_Within.calls a0_5 1 1073741824 false _ A12.out).mono ?_); rintro e w' ⟨rfl, ⟨nd, rfl⟩⟩))
       go_ret
       exact ⟨by first | rfl | (simp [errW_none, errW_some] <;> rfl) | (simp [*, errW_none, errW_some] <;> rfl), by repeat (first | (with_reducible first | exact HB.out | apply below_alloc | apply pw_below_drewN | apply below_drew1 | refine below_set ?_ GE110.out) | exact HB.out)⟩
     ·replace c11 := Bool.eq_false_iff.mpr c11
      subst c11
      have H1 : (some false) = some r := by rw [if_neg (show ¬ (false = true) by decide)] at H; exact H
      clear H
      have H := H1
      clear H1
      obtain rfl := Option.some.inj H
      go_enter Tryz.func53, Tryz.ntmps53
      go_wp2_with (first | ((with_reducible refine gate_dst (N := 1) rfl ?_); refine box_event ?hg (N := 1) ?hd (cs := #[.int .i64 a0_0, .int .i64 a0_1, .int .i64 a0_2, .int .i64 a0_3, .int .i64 a0_4, .int .i64 a0_5, .int .i64 a0_6, .int .i64 a0_7]) (t := 24) ?hr ?_; (case hd => rfl); (case hg => rfl); (case hr => first | (go_simp; done) | (go_simp; rfl)); intro gb110 hg w23 hbox hb; have n0_ := Aside0.mk (below_step (by repeat (first | (with_reducible first | exact HB.out | apply below_alloc | apply pw_below_drewN | apply below_drew1) | exact HB.out)) hb); have n1_ := Aside0.mk (hbox); have n2_ := Aside0.mk ((by rw [hg]; exact (below_size (by repeat (first | (with_reducible first | exact HB.out | apply below_alloc | apply pw_below_drewN | apply below_drew1) | exact HB.out))) : w.heap.size ≤ gb110)); have n3_ := Aside0.mk ((by rw [hg]; exact (below_size (by repeat (first | (with_reducible first | exact HB.out | apply below_alloc | apply pw_below_drewN | apply below_drew1) | exact HB.out))) : w.heap.size ≤ gb110)); clear HB; have HB := n0_; have BK110 := n1_; have GW110 := n2_; have GE110 := n3_; clear n0_ n1_ n2_ n3_; clear hb hbox hg; have hcz24_0 : w23.cell? ⟨gb110, 0, none⟩ = some (.int .i64 a0_0) := (blk_cell BK110.out 0).trans rfl; have hcz24_1 : w23.cell? ⟨gb110, 1, none⟩ = some (.int .i64 a0_1) := (blk_cell BK110.out 1).trans rfl; have hcz24_2 : w23.cell? ⟨gb110, 2, none⟩ = some (.int .i64 a0_2) := (blk_cell BK110.out 2).trans rfl; have hcz24_3 : w23.cell? ⟨gb110, 3, none⟩ = some (.int .i64 a0_3) := (blk_cell BK110.out 3).trans rfl; have hcz24_4 : w23.cell? ⟨gb110, 4, none⟩ = some (.int .i64 a0_4) := (blk_cell BK110.out 4).trans rfl; have hcz24_5 : w23.cell? ⟨gb110, 5, none⟩ = some (.int .i64 a0_5) := (blk_cell BK110.out 5).trans rfl; have hcz24_6 : w23.cell? ⟨gb110, 6, none⟩ = some (.int .i64 a0_6) := (blk_cell BK110.out 6).trans rfl; have hcz24_7 : w23.cell? ⟨gb110, 7, none⟩ = some (.int .i64 a0_7) := (blk_cell BK110.out 7).trans rfl; have hfz24_0 := blk_frozen BK110.out 0; have hfz24_1 := blk_frozen BK110.out 1; have hfz24_2 := blk_frozen BK110.out 2; have hfz24_3 := blk_frozen BK110.out 3; have hfz24_4 := blk_frozen BK110.out 4; have hfz24_5 := blk_frozen BK110.out 5; have hfz24_6 := blk_frozen BK110.out 6; have hfz24_7 := blk_frozen BK110.out 7) | ((with_reducible refine gate_callee (f := 46) rfl ?_); refine goesL_ (some 5) rfl rfl Tryz.func46 (by kernel_rfl) rfl #[.int .i64 a0_0, .int .i64 2, .int .i64 7] rfl (by (try simp only [List.map_toArray, List.map_cons, List.map_nil]); first | done | rfl | (simp only [List.length_drop, List.length_take]; rfl)) ?_; (with_reducible refine (spec_Within.calls a0_0 2 7 true _ A2.out).mono ?_); rintro e w' ⟨rfl, ⟨nd, rfl⟩⟩; refine ⟨_, rfl, ?_⟩) | (go_at_call 46; (with_reducible refine (spec_Within.calls a0_1 2 100 true _ A4.out).mono ?_); rintro e w' ⟨rfl, ⟨nd, rfl⟩⟩) | (go_at_call 46; (with_reducible refine (spec_Within.calls a0_2 1 10 true _ A6.out).mono ?_); rintro e w' ⟨rfl, ⟨nd, rfl⟩⟩) | (go_at_call 46; (with_reducible refine (spec_Within.calls a0_3 1 100 true _ A8.out).mono ?_); rintro e w' ⟨rfl, ⟨nd, rfl⟩⟩) | (go_at_call 46; (with_reducible refine (spec_Within.calls a0_4 1 1099511627776 false _ A10.out).mono ?_); rintro e w' ⟨rfl, ⟨nd, rfl⟩⟩))
      go_ret
      exact ⟨by first | rfl | (simp [errW_none, errW_some] <;> rfl) | (simp [*, errW_none, errW_some] <;> rfl), by repeat (first | (with_reducible first | exact HB.out | apply below_alloc | apply pw_below_drewN | apply below_drew1 | refine below_set ?_ GE110.out) | exact HB.out)⟩
    ·replace c9 := Bool.eq_false_iff.mpr c9
     subst c9
     have H1 : (some false) = some r := by rw [if_neg (show ¬ (false = true) by decide)] at H; exact H
     clear H
     have H := H1
     clear H1
     obtain rfl := Option.some.inj H
     go_enter Tryz.func53, Tryz.ntmps53
     go_wp2_with (first | ((with_reducible refine gate_dst (N := 1) rfl ?_); refine box_event ?hg (N := 1) ?hd (cs := #[.int .i64 a0_0, .int .i64 a0_1, .int .i64 a0_2, .int .i64 a0_3, .int .i64 a0_4, .int .i64 a0_5, .int .i64 a0_6, .int .i64 a0_7]) (t := 24) ?hr ?_; (case hd => rfl); (case hg => rfl); (case hr => first | (go_simp; done) | (go_simp; rfl)); intro gb110 hg w25 hbox hb; have n0_ := Aside0.mk (below_step (by repeat (first | (with_reducible first | exact HB.out | apply below_alloc | apply pw_below_drewN | apply below_drew1) | exact HB.out)) hb); have n1_ := Aside0.mk (hbox); have n2_ := Aside0.mk ((by rw [hg]; exact (below_size (by repeat (first | (with_reducible first | exact HB.out | apply below_alloc | apply pw_below_drewN | apply below_drew1) | exact HB.out))) : w.heap.size ≤ gb110)); have n3_ := Aside0.mk ((by rw [hg]; exact (below_size (by repeat (first | (with_reducible first | exact HB.out | apply below_alloc | apply pw_below_drewN | apply below_drew1) | exact HB.out))) : w.heap.size ≤ gb110)); clear HB; have HB := n0_; have BK110 := n1_; have GW110 := n2_; have GE110 := n3_; clear n0_ n1_ n2_ n3_; clear hb hbox hg; have hcz26_0 : w25.cell? ⟨gb110, 0, none⟩ = some (.int .i64 a0_0) := (blk_cell BK110.out 0).trans rfl; have hcz26_1 : w25.cell? ⟨gb110, 1, none⟩ = some (.int .i64 a0_1) := (blk_cell BK110.out 1).trans rfl; have hcz26_2 : w25.cell? ⟨gb110, 2, none⟩ = some (.int .i64 a0_2) := (blk_cell BK110.out 2).trans rfl; have hcz26_3 : w25.cell? ⟨gb110, 3, none⟩ = some (.int .i64 a0_3) := (blk_cell BK110.out 3).trans rfl; have hcz26_4 : w25.cell? ⟨gb110, 4, none⟩ = some (.int .i64 a0_4) := (blk_cell BK110.out 4).trans rfl; have hcz26_5 : w25.cell? ⟨gb110, 5, none⟩ = some (.int .i64 a0_5) := (blk_cell BK110.out 5).trans rfl; have hcz26_6 : w25.cell? ⟨gb110, 6, none⟩ = some (.int .i64 a0_6) := (blk_cell BK110.out 6).trans rfl; have hcz26_7 : w25.cell? ⟨gb110, 7, none⟩ = some (.int .i64 a0_7) := (blk_cell BK110.out 7).trans rfl; have hfz26_0 := blk_frozen BK110.out 0; have hfz26_1 := blk_frozen BK110.out 1; have hfz26_2 := blk_frozen BK110.out 2; have hfz26_3 := blk_frozen BK110.out 3; have hfz26_4 := blk_frozen BK110.out 4; have hfz26_5 := blk_frozen BK110.out 5; have hfz26_6 := blk_frozen BK110.out 6; have hfz26_7 := blk_frozen BK110.out 7) | ((with_reducible refine gate_callee (f := 46) rfl ?_); refine goesL_ (some 5) rfl rfl Tryz.func46 (by kernel_rfl) rfl #[.int .i64 a0_0, .int .i64 2, .int .i64 7] rfl (by (try simp only [List.map_toArray, List.map_cons, List.map_nil]); first | done | rfl | (simp only [List.length_drop, List.length_take]; rfl)) ?_; (with_reducible refine (spec_Within.calls a0_0 2 7 true _ A2.out).mono ?_); rintro e w' ⟨rfl, ⟨nd, rfl⟩⟩; refine ⟨_, rfl, ?_⟩) | (go_at_call 46; (with_reducible refine (spec_Within.calls a0_1 2 100 true _ A4.out).mono ?_); rintro e w' ⟨rfl, ⟨nd, rfl⟩⟩) | (go_at_call 46; (with_reducible refine (spec_Within.calls a0_2 1 10 true _ A6.out).mono ?_); rintro e w' ⟨rfl, ⟨nd, rfl⟩⟩) | (go_at_call 46; (with_reducible refine (spec_Within.calls a0_3 1 100 false _ A8.out).mono ?_); rintro e w' ⟨rfl, ⟨nd, rfl⟩⟩))
     go_ret
     exact ⟨by first | rfl | (simp [errW_none, errW_some] <;> rfl) | (simp [*, errW_none, errW_some] <;> rfl), by repeat (first | (with_reducible first | exact HB.out | apply below_alloc | apply pw_below_drewN | apply below_drew1 | refine below_set ?_ GE110.out) | exact HB.out)⟩
   ·replace c7 := Bool.eq_false_iff.mpr c7
    subst c7
    have H1 : (some false) = some r := by rw [if_neg (show ¬ (false = true) by decide)] at H; exact H
    clear H
    have H := H1
    clear H1
    obtain rfl := Option.some.inj H
    go_enter Tryz.func53, Tryz.ntmps53
    go_wp2_with (first | ((with_reducible refine gate_dst (N := 1) rfl ?_); refine box_event ?hg (N := 1) ?hd (cs := #[.int .i64 a0_0, .int .i64 a0_1, .int .i64 a0_2, .int .i64 a0_3, .int .i64 a0_4, .int .i64 a0_5, .int .i64 a0_6, .int .i64 a0_7]) (t := 24) ?hr ?_; (case hd => rfl); (case hg => rfl); (case hr => first | (go_simp; done) | (go_simp; rfl)); intro gb110 hg w27 hbox hb; have n0_ := Aside0.mk (below_step (by repeat (first | (with_reducible first | exact HB.out | apply below_alloc | apply pw_below_drewN | apply below_drew1) | exact HB.out)) hb); have n1_ := Aside0.mk (hbox); have n2_ := Aside0.mk ((by rw [hg]; exact (below_size (by repeat (first | (with_reducible first | exact HB.out | apply below_alloc | apply pw_below_drewN | apply below_drew1) | exact HB.out))) : w.heap.size ≤ gb110)); have n3_ := Aside0.mk ((by rw [hg]; exact (below_size (by repeat (first | (with_reducible first | exact HB.out | apply below_alloc | apply pw_below_drewN | apply below_drew1) | exact HB.out))) : w.heap.size ≤ gb110)); clear HB; have HB := n0_; have BK110 := n1_; have GW110 := n2_; have GE110 := n3_; clear n0_ n1_ n2_ n3_; clear hb hbox hg; have hcz28_0 : w27.cell? ⟨gb110, 0, none⟩ = some (.int .i64 a0_0) := (blk_cell BK110.out 0).trans rfl; have hcz28_1 : w27.cell? ⟨gb110, 1, none⟩ = some (.int .i64 a0_1) := (blk_cell BK110.out 1).trans rfl; have hcz28_2 : w27.cell? ⟨gb110, 2, none⟩ = some (.int .i64 a0_2) := (blk_cell BK110.out 2).trans rfl; have hcz28_3 : w27.cell? ⟨gb110, 3, none⟩ = some (.int .i64 a0_3) := (blk_cell BK110.out 3).trans rfl; have hcz28_4 : w27.cell? ⟨gb110, 4, none⟩ = some (.int .i64 a0_4) := (blk_cell BK110.out 4).trans rfl; have hcz28_5 : w27.cell? ⟨gb110, 5, none⟩ = some (.int .i64 a0_5) := (blk_cell BK110.out 5).trans rfl; have hcz28_6 : w27.cell? ⟨gb110, 6, none⟩ = some (.int .i64 a0_6) := (blk_cell BK110.out 6).trans rfl; have hcz28_7 : w27.cell? ⟨gb110, 7, none⟩ = some (.int .i64 a0_7) := (blk_cell BK110.out 7).trans rfl; have hfz28_0 := blk_frozen BK110.out 0; have hfz28_1 := blk_frozen BK110.out 1; have hfz28_2 := blk_frozen BK110.out 2; have hfz28_3 := blk_frozen BK110.out 3; have hfz28_4 := blk_frozen BK110.out 4; have hfz28_5 := blk_frozen BK110.out 5; have hfz28_6 := blk_frozen BK110.out 6; have hfz28_7 := blk_frozen BK110.out 7) | ((with_reducible refine gate_callee (f := 46) rfl ?_); refine goesL_ (some 5) rfl rfl Tryz.func46 (by kernel_rfl) rfl #[.int .i64 a0_0, .int .i64 2, .int .i64 7] rfl (by (try simp only [List.map_toArray, List.map_cons, List.map_nil]); first | done | rfl | (simp only [List.length_drop, List.length_take]; rfl)) ?_; (with_reducible refine (spec_Within.calls a0_0 2 7 true _ A2.out).mono ?_); rintro e w' ⟨rfl, ⟨nd, rfl⟩⟩; refine ⟨_, rfl, ?_⟩) | (go_at_call 46; (with_reducible refine (spec_Within.calls a0_1 2 100 true _ A4.out).mono ?_); rintro e w' ⟨rfl, ⟨nd, rfl⟩⟩) | (go_at_call 46; (with_reducible refine (spec_Within.calls a0_2 1 10 false _ A6.out).mono ?_); rintro e w' ⟨rfl, ⟨nd, rfl⟩⟩))
    go_ret
    exact ⟨by first | rfl | (simp [errW_none, errW_some] <;> rfl) | (simp [*, errW_none, errW_some] <;> rfl), by repeat (first | (with_reducible first | exact HB.out | apply below_alloc | apply pw_below_drewN | apply below_drew1 | refine below_set ?_ GE110.out) | exact HB.out)⟩
  ·replace c5 := Bool.eq_false_iff.mpr c5
   subst c5
   have H1 : (some false) = some r := by rw [if_neg (show ¬ (false = true) by decide)] at H; exact H
   clear H
   have H := H1
   clear H1
   obtain rfl := Option.some.inj H
   go_enter Tryz.func53, Tryz.ntmps53
   go_wp2_with (first | ((with_reducible refine gate_dst (N := 1) rfl ?_); refine box_event ?hg (N := 1) ?hd (cs := #[.int .i64 a0_0, .int .i64 a0_1, .int .i64 a0_2, .int .i64 a0_3, .int .i64 a0_4, .int .i64 a0_5, .int .i64 a0_6, .int .i64 a0_7]) (t := 24) ?hr ?_; (case hd => rfl); (case hg => rfl); (case hr => first | (go_simp; done) | (go_simp; rfl)); intro gb110 hg w29 hbox hb; have n0_ := Aside0.mk (below_step (by repeat (first | (with_reducible first | exact HB.out | apply below_alloc | apply pw_below_drewN | apply below_drew1) | exact HB.out)) hb); have n1_ := Aside0.mk (hbox); have n2_ := Aside0.mk ((by rw [hg]; exact (below_size (by repeat (first | (with_reducible first | exact HB.out | apply below_alloc | apply pw_below_drewN | apply below_drew1) | exact HB.out))) : w.heap.size ≤ gb110)); have n3_ := Aside0.mk ((by rw [hg]; exact (below_size (by repeat (first | (with_reducible first | exact HB.out | apply below_alloc | apply pw_below_drewN | apply below_drew1) | exact HB.out))) : w.heap.size ≤ gb110)); clear HB; have HB := n0_; have BK110 := n1_; have GW110 := n2_; have GE110 := n3_; clear n0_ n1_ n2_ n3_; clear hb hbox hg; have hcz30_0 : w29.cell? ⟨gb110, 0, none⟩ = some (.int .i64 a0_0) := (blk_cell BK110.out 0).trans rfl; have hcz30_1 : w29.cell? ⟨gb110, 1, none⟩ = some (.int .i64 a0_1) := (blk_cell BK110.out 1).trans rfl; have hcz30_2 : w29.cell? ⟨gb110, 2, none⟩ = some (.int .i64 a0_2) := (blk_cell BK110.out 2).trans rfl; have hcz30_3 : w29.cell? ⟨gb110, 3, none⟩ = some (.int .i64 a0_3) := (blk_cell BK110.out 3).trans rfl; have hcz30_4 : w29.cell? ⟨gb110, 4, none⟩ = some (.int .i64 a0_4) := (blk_cell BK110.out 4).trans rfl; have hcz30_5 : w29.cell? ⟨gb110, 5, none⟩ = some (.int .i64 a0_5) := (blk_cell BK110.out 5).trans rfl; have hcz30_6 : w29.cell? ⟨gb110, 6, none⟩ = some (.int .i64 a0_6) := (blk_cell BK110.out 6).trans rfl; have hcz30_7 : w29.cell? ⟨gb110, 7, none⟩ = some (.int .i64 a0_7) := (blk_cell BK110.out 7).trans rfl; have hfz30_0 := blk_frozen BK110.out 0; have hfz30_1 := blk_frozen BK110.out 1; have hfz30_2 := blk_frozen BK110.out 2; have hfz30_3 := blk_frozen BK110.out 3; have hfz30_4 := blk_frozen BK110.out 4; have hfz30_5 := blk_frozen BK110.out 5; have hfz30_6 := blk_frozen BK110.out 6; have hfz30_7 := blk_frozen BK110.out 7) | ((with_reducible refine gate_callee (f := 46) rfl ?_); refine goesL_ (some 5) rfl rfl Tryz.func46 (by kernel_rfl) rfl #[.int .i64 a0_0, .int .i64 2, .int .i64 7] rfl (by (try simp only [List.map_toArray, List.map_cons, List.map_nil]); first | done | rfl | (simp only [List.length_drop, List.length_take]; rfl)) ?_; (with_reducible refine (spec_Within.calls a0_0 2 7 true _ A2.out).mono ?_); rintro e w' ⟨rfl, ⟨nd, rfl⟩⟩; refine ⟨_, rfl, ?_⟩) | (go_at_call 46; (with_reducible refine (spec_Within.calls a0_1 2 100 false _ A4.out).mono ?_); rintro e w' ⟨rfl, ⟨nd, rfl⟩⟩))
   go_ret
   exact ⟨by first | rfl | (simp [errW_none, errW_some] <;> rfl) | (simp [*, errW_none, errW_some] <;> rfl), by repeat (first | (with_reducible first | exact HB.out | apply below_alloc | apply pw_below_drewN | apply below_drew1 | refine below_set ?_ GE110.out) | exact HB.out)⟩
 ·replace c3 := Bool.eq_false_iff.mpr c3
  subst c3
  have H1 : (some false) = some r := by rw [if_neg (show ¬ (false = true) by decide)] at H; exact H
  clear H
  have H := H1
  clear H1
  obtain rfl := Option.some.inj H
  go_enter Tryz.func53, Tryz.ntmps53
  go_wp2_with (first | ((with_reducible refine gate_dst (N := 1) rfl ?_); refine box_event ?hg (N := 1) ?hd (cs := #[.int .i64 a0_0, .int .i64 a0_1, .int .i64 a0_2, .int .i64 a0_3, .int .i64 a0_4, .int .i64 a0_5, .int .i64 a0_6, .int .i64 a0_7]) (t := 24) ?hr ?_; (case hd => rfl); (case hg => rfl); (case hr => first | (go_simp; done) | (go_simp; rfl)); intro gb110 hg w31 hbox hb; have n0_ := Aside0.mk (below_step (by repeat (first | (with_reducible first | exact HB.out | apply below_alloc | apply pw_below_drewN | apply below_drew1) | exact HB.out)) hb); have n1_ := Aside0.mk (hbox); have n2_ := Aside0.mk ((by rw [hg]; exact (below_size (by repeat (first | (with_reducible first | exact HB.out | apply below_alloc | apply pw_below_drewN | apply below_drew1) | exact HB.out))) : w.heap.size ≤ gb110)); have n3_ := Aside0.mk ((by rw [hg]; exact (below_size (by repeat (first | (with_reducible first | exact HB.out | apply below_alloc | apply pw_below_drewN | apply below_drew1) | exact HB.out))) : w.heap.size ≤ gb110)); clear HB; have HB := n0_; have BK110 := n1_; have GW110 := n2_; have GE110 := n3_; clear n0_ n1_ n2_ n3_; clear hb hbox hg; have hcz32_0 : w31.cell? ⟨gb110, 0, none⟩ = some (.int .i64 a0_0) := (blk_cell BK110.out 0).trans rfl; have hcz32_1 : w31.cell? ⟨gb110, 1, none⟩ = some (.int .i64 a0_1) := (blk_cell BK110.out 1).trans rfl; have hcz32_2 : w31.cell? ⟨gb110, 2, none⟩ = some (.int .i64 a0_2) := (blk_cell BK110.out 2).trans rfl; have hcz32_3 : w31.cell? ⟨gb110, 3, none⟩ = some (.int .i64 a0_3) := (blk_cell BK110.out 3).trans rfl; have hcz32_4 : w31.cell? ⟨gb110, 4, none⟩ = some (.int .i64 a0_4) := (blk_cell BK110.out 4).trans rfl; have hcz32_5 : w31.cell? ⟨gb110, 5, none⟩ = some (.int .i64 a0_5) := (blk_cell BK110.out 5).trans rfl; have hcz32_6 : w31.cell? ⟨gb110, 6, none⟩ = some (.int .i64 a0_6) := (blk_cell BK110.out 6).trans rfl; have hcz32_7 : w31.cell? ⟨gb110, 7, none⟩ = some (.int .i64 a0_7) := (blk_cell BK110.out 7).trans rfl; have hfz32_0 := blk_frozen BK110.out 0; have hfz32_1 := blk_frozen BK110.out 1; have hfz32_2 := blk_frozen BK110.out 2; have hfz32_3 := blk_frozen BK110.out 3; have hfz32_4 := blk_frozen BK110.out 4; have hfz32_5 := blk_frozen BK110.out 5; have hfz32_6 := blk_frozen BK110.out 6; have hfz32_7 := blk_frozen BK110.out 7) | ((with_reducible refine gate_callee (f := 46) rfl ?_); refine goesL_ (some 5) rfl rfl Tryz.func46 (by kernel_rfl) rfl #[.int .i64 a0_0, .int .i64 2, .int .i64 7] rfl (by (try simp only [List.map_toArray, List.map_cons, List.map_nil]); first | done | rfl | (simp only [List.length_drop, List.length_take]; rfl)) ?_; (with_reducible refine (spec_Within.calls a0_0 2 7 false _ A2.out).mono ?_); rintro e w' ⟨rfl, ⟨nd, rfl⟩⟩; refine ⟨_, rfl, ?_⟩))
  go_ret
  exact ⟨by first | rfl | (simp [errW_none, errW_some] <;> rfl) | (simp [*, errW_none, errW_some] <;> rfl), by repeat (first | (with_reducible first | exact HB.out | apply below_alloc | apply pw_below_drewN | apply below_drew1 | refine below_set ?_ GE110.out) | exact HB.out)⟩

/-! ### spec_tableOk: function 54 -/
def spec_tableOk.f (a0_0 : Int) (a0_1 : ByteArray) (a0_2 : Int) (a0_3 : ByteArray) (a0_4 : Int) (a0_5 : Int) (a0_6 : Int) (a0_7 : Int) (a0_8 : Int) : Option (Bool) := (spec_Within.f a0_0 1 1099511627776).bind fun t120 => (if t120 = true then ((spec_Within.f a0_5 1 17179869184).bind fun t121 => (if t121 = true then ((spec_Within.f a0_2 0 1099511627776).bind fun t122 => (if t122 = true then ((spec_Within.f a0_4 0 1099511627776).bind fun t123 => (if t123 = true then ((spec_Within.f a0_6 0 1099511627776).bind fun t124 => (if t124 = true then ((spec_Within.f a0_7 0 1073741824).bind fun t125 => (if t125 = true then ((spec_Within.f a0_8 0 1073741824).bind fun t126 => (if t126 = true then (if (Op.bytesLess a0_1.toList a0_3.toList) = true then (some true) else (if a0_1.toList = a0_3.toList then (some (decide (a0_2 ≥ a0_4))) else (some false))) else (some false))) else (some false))) else (some false))) else (some false))) else (some false))) else (some false))) else (some false))
set_option maxHeartbeats 8000000 in
set_option maxRecDepth 100000 in
theorem spec_tableOk.calls (a0_0 : Int) (a0_1 : ByteArray) (a0_2 : Int) (a0_3 : ByteArray) (a0_4 : Int) (a0_5 : Int) (a0_6 : Int) (a0_7 : Int) (a0_8 : Int) (r : Bool) (w : World) (h : spec_tableOk.f a0_0 a0_1 a0_2 a0_3 a0_4 a0_5 a0_6 a0_7 a0_8 = some r) :
  Calls Tryz.prog 54 #[.agg #[.int .i64 a0_0, .string a0_1, .int .i64 a0_2, .string a0_3, .int .i64 a0_4, .int .i64 a0_5, .int .i64 a0_6, .int .i64 a0_7, .int .i64 a0_8]] w fun e w' => e = .returned (.bool r) ∧ Below w.heap.size w w' := by
 have hu68 := Tryz.underlying68
 have HB := Aside0.mk (Below.refl w.heap.size w)
 have H : ((spec_Within.f a0_0 1 1099511627776).bind fun t120 => (if t120 = true then ((spec_Within.f a0_5 1 17179869184).bind fun t121 => (if t121 = true then ((spec_Within.f a0_2 0 1099511627776).bind fun t122 => (if t122 = true then ((spec_Within.f a0_4 0 1099511627776).bind fun t123 => (if t123 = true then ((spec_Within.f a0_6 0 1099511627776).bind fun t124 => (if t124 = true then ((spec_Within.f a0_7 0 1073741824).bind fun t125 => (if t125 = true then ((spec_Within.f a0_8 0 1073741824).bind fun t126 => (if t126 = true then (if (Op.bytesLess a0_1.toList a0_3.toList) = true then (some true) else (if a0_1.toList = a0_3.toList then (some (decide (a0_2 ≥ a0_4))) else (some false))) else (some false))) else (some false))) else (some false))) else (some false))) else (some false))) else (some false))) else (some false))) = some r := h
 clear h
 replace H := Option.bind_eq_some_iff.mp H
 obtain ⟨t120, A20, H⟩ := H
 replace H : (if t120 = true then ((spec_Within.f a0_5 1 17179869184).bind fun t121 => (if t121 = true then ((spec_Within.f a0_2 0 1099511627776).bind fun t122 => (if t122 = true then ((spec_Within.f a0_4 0 1099511627776).bind fun t123 => (if t123 = true then ((spec_Within.f a0_6 0 1099511627776).bind fun t124 => (if t124 = true then ((spec_Within.f a0_7 0 1073741824).bind fun t125 => (if t125 = true then ((spec_Within.f a0_8 0 1073741824).bind fun t126 => (if t126 = true then (if (Op.bytesLess a0_1.toList a0_3.toList) = true then (some true) else (if a0_1.toList = a0_3.toList then (some (decide (a0_2 ≥ a0_4))) else (some false))) else (some false))) else (some false))) else (some false))) else (some false))) else (some false))) else (some false))) else (some false)) = some r := H
 have A2 := Aside0.mk A20
 clear A20
 by_cases c3 : t120 = true
 ·subst c3
  have H1 : ((spec_Within.f a0_5 1 17179869184).bind fun t121 => (if t121 = true then ((spec_Within.f a0_2 0 1099511627776).bind fun t122 => (if t122 = true then ((spec_Within.f a0_4 0 1099511627776).bind fun t123 => (if t123 = true then ((spec_Within.f a0_6 0 1099511627776).bind fun t124 => (if t124 = true then ((spec_Within.f a0_7 0 1073741824).bind fun t125 => (if t125 = true then ((spec_Within.f a0_8 0 1073741824).bind fun t126 => (if t126 = true then (if (Op.bytesLess a0_1.toList a0_3.toList) = true then (some true) else (if a0_1.toList = a0_3.toList then (some (decide (a0_2 ≥ a0_4))) else (some false))) else (some false))) else (some false))) else (some false))) else (some false))) else (some false))) else (some false))) = some r := by rw [if_pos rfl] at H; exact H
  clear H
  have H := H1
  clear H1
  replace H := Option.bind_eq_some_iff.mp H
  obtain ⟨t121, A40, H⟩ := H
  replace H : (if t121 = true then ((spec_Within.f a0_2 0 1099511627776).bind fun t122 => (if t122 = true then ((spec_Within.f a0_4 0 1099511627776).bind fun t123 => (if t123 = true then ((spec_Within.f a0_6 0 1099511627776).bind fun t124 => (if t124 = true then ((spec_Within.f a0_7 0 1073741824).bind fun t125 => (if t125 = true then ((spec_Within.f a0_8 0 1073741824).bind fun t126 => (if t126 = true then (if (Op.bytesLess a0_1.toList a0_3.toList) = true then (some true) else (if a0_1.toList = a0_3.toList then (some (decide (a0_2 ≥ a0_4))) else (some false))) else (some false))) else (some false))) else (some false))) else (some false))) else (some false))) else (some false)) = some r := H
  have A4 := Aside0.mk A40
  clear A40
  by_cases c5 : t121 = true
  ·subst c5
   have H1 : ((spec_Within.f a0_2 0 1099511627776).bind fun t122 => (if t122 = true then ((spec_Within.f a0_4 0 1099511627776).bind fun t123 => (if t123 = true then ((spec_Within.f a0_6 0 1099511627776).bind fun t124 => (if t124 = true then ((spec_Within.f a0_7 0 1073741824).bind fun t125 => (if t125 = true then ((spec_Within.f a0_8 0 1073741824).bind fun t126 => (if t126 = true then (if (Op.bytesLess a0_1.toList a0_3.toList) = true then (some true) else (if a0_1.toList = a0_3.toList then (some (decide (a0_2 ≥ a0_4))) else (some false))) else (some false))) else (some false))) else (some false))) else (some false))) else (some false))) = some r := by rw [if_pos rfl] at H; exact H
   clear H
   have H := H1
   clear H1
   replace H := Option.bind_eq_some_iff.mp H
   obtain ⟨t122, A60, H⟩ := H
   replace H : (if t122 = true then ((spec_Within.f a0_4 0 1099511627776).bind fun t123 => (if t123 = true then ((spec_Within.f a0_6 0 1099511627776).bind fun t124 => (if t124 = true then ((spec_Within.f a0_7 0 1073741824).bind fun t125 => (if t125 = true then ((spec_Within.f a0_8 0 1073741824).bind fun t126 => (if t126 = true then (if (Op.bytesLess a0_1.toList a0_3.toList) = true then (some true) else (if a0_1.toList = a0_3.toList then (some (decide (a0_2 ≥ a0_4))) else (some false))) else (some false))) else (some false))) else (some false))) else (some false))) else (some false)) = some r := H
   have A6 := Aside0.mk A60
   clear A60
   by_cases c7 : t122 = true
   ·subst c7
    have H1 : ((spec_Within.f a0_4 0 1099511627776).bind fun t123 => (if t123 = true then ((spec_Within.f a0_6 0 1099511627776).bind fun t124 => (if t124 = true then ((spec_Within.f a0_7 0 1073741824).bind fun t125 => (if t125 = true then ((spec_Within.f a0_8 0 1073741824).bind fun t126 => (if t126 = true then (if (Op.bytesLess a0_1.toList a0_3.toList) = true then (some true) else (if a0_1.toList = a0_3.toList then (some (decide (a0_2 ≥ a0_4))) else (some false))) else (some false))) else (some false))) else (some false))) else (some false))) = some r := by rw [if_pos rfl] at H; exact H
    clear H
    have H := H1
    clear H1
    replace H := Option.bind_eq_some_iff.mp H
    obtain ⟨t123, A80, H⟩ := H
    replace H : (if t123 = true then ((spec_Within.f a0_6 0 1099511627776).bind fun t124 => (if t124 = true then ((spec_Within.f a0_7 0 1073741824).bind fun t125 => (if t125 = true then ((spec_Within.f a0_8 0 1073741824).bind fun t126 => (if t126 = true then (if (Op.bytesLess a0_1.toList a0_3.toList) = true then (some true) else (if a0_1.toList = a0_3.toList then (some (decide (a0_2 ≥ a0_4))) else (some false))) else (some false))) else (some false))) else (some false))) else (some false)) = some r := H
    have A8 := Aside0.mk A80
    clear A80
    by_cases c9 : t123 = true
    ·subst c9
     have H1 : ((spec_Within.f a0_6 0 1099511627776).bind fun t124 => (if t124 = true then ((spec_Within.f a0_7 0 1073741824).bind fun t125 => (if t125 = true then ((spec_Within.f a0_8 0 1073741824).bind fun t126 => (if t126 = true then (if (Op.bytesLess a0_1.toList a0_3.toList) = true then (some true) else (if a0_1.toList = a0_3.toList then (some (decide (a0_2 ≥ a0_4))) else (some false))) else (some false))) else (some false))) else (some false))) = some r := by rw [if_pos rfl] at H; exact H
     clear H
     have H := H1
     clear H1
     replace H := Option.bind_eq_some_iff.mp H
     obtain ⟨t124, A100, H⟩ := H
     replace H : (if t124 = true then ((spec_Within.f a0_7 0 1073741824).bind fun t125 => (if t125 = true then ((spec_Within.f a0_8 0 1073741824).bind fun t126 => (if t126 = true then (if (Op.bytesLess a0_1.toList a0_3.toList) = true then (some true) else (if a0_1.toList = a0_3.toList then (some (decide (a0_2 ≥ a0_4))) else (some false))) else (some false))) else (some false))) else (some false)) = some r := H
     have A10 := Aside0.mk A100
     clear A100
     by_cases c11 : t124 = true
     ·subst c11
      have H1 : ((spec_Within.f a0_7 0 1073741824).bind fun t125 => (if t125 = true then ((spec_Within.f a0_8 0 1073741824).bind fun t126 => (if t126 = true then (if (Op.bytesLess a0_1.toList a0_3.toList) = true then (some true) else (if a0_1.toList = a0_3.toList then (some (decide (a0_2 ≥ a0_4))) else (some false))) else (some false))) else (some false))) = some r := by rw [if_pos rfl] at H; exact H
      clear H
      have H := H1
      clear H1
      replace H := Option.bind_eq_some_iff.mp H
      obtain ⟨t125, A120, H⟩ := H
      replace H : (if t125 = true then ((spec_Within.f a0_8 0 1073741824).bind fun t126 => (if t126 = true then (if (Op.bytesLess a0_1.toList a0_3.toList) = true then (some true) else (if a0_1.toList = a0_3.toList then (some (decide (a0_2 ≥ a0_4))) else (some false))) else (some false))) else (some false)) = some r := H
      have A12 := Aside0.mk A120
      clear A120
      by_cases c13 : t125 = true
      ·subst c13
       have H1 : ((spec_Within.f a0_8 0 1073741824).bind fun t126 => (if t126 = true then (if (Op.bytesLess a0_1.toList a0_3.toList) = true then (some true) else (if a0_1.toList = a0_3.toList then (some (decide (a0_2 ≥ a0_4))) else (some false))) else (some false))) = some r := by rw [if_pos rfl] at H; exact H
       clear H
       have H := H1
       clear H1
       replace H := Option.bind_eq_some_iff.mp H
       obtain ⟨t126, A140, H⟩ := H
       replace H : (if t126 = true then (if (Op.bytesLess a0_1.toList a0_3.toList) = true then (some true) else (if a0_1.toList = a0_3.toList then (some (decide (a0_2 ≥ a0_4))) else (some false))) else (some false)) = some r := H
       have A14 := Aside0.mk A140
       clear A140
       by_cases c15 : t126 = true
       ·subst c15
        have H1 : (if (Op.bytesLess a0_1.toList a0_3.toList) = true then (some true) else (if a0_1.toList = a0_3.toList then (some (decide (a0_2 ≥ a0_4))) else (some false))) = some r := by rw [if_pos rfl] at H; exact H
        clear H
        have H := H1
        clear H1
        by_cases c16 : (Op.bytesLess a0_1.toList a0_3.toList) = true
        ·rw [if_pos c16] at H
         have c16b0 : (Op.bytesLess a0_1.toList a0_3.toList) = true := c16
         clear c16
         obtain rfl := Option.some.inj H
         go_enter Tryz.func54, Tryz.ntmps54
         go_wp2_with (first | ((with_reducible refine gate_dst (N := 1) rfl ?_); refine box_event ?hg (N := 1) ?hd (cs := #[.int .i64 a0_0, .string a0_1, .int .i64 a0_2, .string a0_3, .int .i64 a0_4, .int .i64 a0_5, .int .i64 a0_6, .int .i64 a0_7, .int .i64 a0_8]) (t := 68) ?hr ?_; (case hd => rfl); (case hg => rfl); (case hr => first | (go_simp; done) | (go_simp; rfl)); intro gb119 hg w17 hbox hb; have n0_ := Aside0.mk (below_step (by repeat (first | (with_reducible first | exact HB.out | apply below_alloc | apply pw_below_drewN | apply below_drew1) | exact HB.out)) hb); have n1_ := Aside0.mk (hbox); have n2_ := Aside0.mk ((by rw [hg]; exact (below_size (by repeat (first | (with_reducible first | exact HB.out | apply below_alloc | apply pw_below_drewN | apply below_drew1) | exact HB.out))) : w.heap.size ≤ gb119)); have n3_ := Aside0.mk ((by rw [hg]; exact (below_size (by repeat (first | (with_reducible first | exact HB.out | apply below_alloc | apply pw_below_drewN | apply below_drew1) | exact HB.out))) : w.heap.size ≤ gb119)); clear HB; have HB := n0_; have BK119 := n1_; have GW119 := n2_; have GE119 := n3_; clear n0_ n1_ n2_ n3_; clear hb hbox hg; have hcz18_0 : w17.cell? ⟨gb119, 0, none⟩ = some (.int .i64 a0_0) := (blk_cell BK119.out 0).trans rfl; have hcz18_1 : w17.cell? ⟨gb119, 1, none⟩ = some (.string a0_1) := (blk_cell BK119.out 1).trans rfl; have hcz18_2 : w17.cell? ⟨gb119, 2, none⟩ = some (.int .i64 a0_2) := (blk_cell BK119.out 2).trans rfl; have hcz18_3 : w17.cell? ⟨gb119, 3, none⟩ = some (.string a0_3) := (blk_cell BK119.out 3).trans rfl; have hcz18_4 : w17.cell? ⟨gb119, 4, none⟩ = some (.int .i64 a0_4) := (blk_cell BK119.out 4).trans rfl; have hcz18_5 : w17.cell? ⟨gb119, 5, none⟩ = some (.int .i64 a0_5) := (blk_cell BK119.out 5).trans rfl; have hcz18_6 : w17.cell? ⟨gb119, 6, none⟩ = some (.int .i64 a0_6) := (blk_cell BK119.out 6).trans rfl; have hcz18_7 : w17.cell? ⟨gb119, 7, none⟩ = some (.int .i64 a0_7) := (blk_cell BK119.out 7).trans rfl; have hcz18_8 : w17.cell? ⟨gb119, 8, none⟩ = some (.int .i64 a0_8) := (blk_cell BK119.out 8).trans rfl; have hfz18_0 := blk_frozen BK119.out 0; have hfz18_1 := blk_frozen BK119.out 1; have hfz18_2 := blk_frozen BK119.out 2; have hfz18_3 := blk_frozen BK119.out 3; have hfz18_4 := blk_frozen BK119.out 4; have hfz18_5 := blk_frozen BK119.out 5; have hfz18_6 := blk_frozen BK119.out 6; have hfz18_7 := blk_frozen BK119.out 7; have hfz18_8 := blk_frozen BK119.out 8) | ((with_reducible refine gate_callee (f := 46) rfl ?_); refine goesL_ (some 5) rfl rfl Tryz.func46 (by kernel_rfl) rfl #[.int .i64 a0_0, .int .i64 1, .int .i64 1099511627776] rfl (by (try simp only [List.map_toArray, List.map_cons, List.map_nil]); first | done | rfl | (simp only [List.length_drop, List.length_take]; rfl)) ?_; (with_reducible refine (spec_Within.calls a0_0 1 1099511627776 true _ A2.out).mono ?_); rintro e w' ⟨rfl, ⟨nd, rfl⟩⟩; refine ⟨_, rfl, ?_⟩) | (go_at_call 46; (with_reducible refine (spec_Within.calls a0_5 1 17179869184 true _ A4.out).mono ?_); rintro e w' ⟨rfl, ⟨nd, rfl⟩⟩) | (go_at_call 46; (with_reducible refine (spec_Within.calls a0_2 0 1099511627776 true _ A6.out).mono ?_); rintro e w' ⟨rfl, ⟨nd, rfl⟩⟩) | (go_at_call 46; (with_reducible refine (spec_Within.calls a0_4 0 1099511627776 true _ A8.out).mono ?_); rintro e w' ⟨rfl, ⟨nd, rfl⟩⟩) | (go_at_call 46; (with_reducible refine (spec_Within.calls a0_6 0 1099511627776 true _ A10.out).mono ?_); rintro e w' ⟨rfl, ⟨nd, rfl⟩⟩) | (go_at_call 46; (with_reducible refine (spec_Within.calls a0_7 0 1073741824 true _ A12.out).mono ?_); rintro e w' ⟨rfl, ⟨nd, rfl⟩⟩) | (go_at_call 46; (with_reducible refine (spec_Within.calls a0_8 0 1073741824 true _ A14.out).mono ?_); rintro e w' ⟨rfl, ⟨nd, rfl⟩⟩))
         go_ret
         exact ⟨by first | rfl | (simp [errW_none, errW_some] <;> rfl) | (simp [*, errW_none, errW_some] <;> rfl), by repeat (first | (with_reducible first | exact HB.out | apply below_alloc | apply pw_below_drewN | apply below_drew1 | refine below_set ?_ GE119.out) | exact HB.out)⟩
        ·rw [if_neg c16] at H
         have c16b0 : (Op.bytesLess a0_1.toList a0_3.toList) = false := by simpa using c16
         clear c16
         by_cases c19 : a0_1.toList = a0_3.toList
         ·rw [if_pos c19] at H
          have c19b0 : (a0_1.toList == a0_3.toList) = true := beq_iff_eq.mpr c19
          have c19b1 : (a0_1.toList != a0_3.toList) = false := bne_eq_false_iff_eq.mpr c19
          clear c19
          obtain rfl := Option.some.inj H
          go_enter Tryz.func54, Tryz.ntmps54
          go_wp2_with (first | ((with_reducible refine gate_dst (N := 1) rfl ?_); refine box_event ?hg (N := 1) ?hd (cs := #[.int .i64 a0_0, .string a0_1, .int .i64 a0_2, .string a0_3, .int .i64 a0_4, .int .i64 a0_5, .int .i64 a0_6, .int .i64 a0_7, .int .i64 a0_8]) (t := 68) ?hr ?_; (case hd => rfl); (case hg => rfl); (case hr => first | (go_simp; done) | (go_simp; rfl)); intro gb119 hg w20 hbox hb; have n0_ := Aside0.mk (below_step (by repeat (first | (with_reducible first | exact HB.out | apply below_alloc | apply pw_below_drewN | apply below_drew1) | exact HB.out)) hb); have n1_ := Aside0.mk (hbox); have n2_ := Aside0.mk ((by rw [hg]; exact (below_size (by repeat (first | (with_reducible first | exact HB.out | apply below_alloc | apply pw_below_drewN | apply below_drew1) | exact HB.out))) : w.heap.size ≤ gb119)); have n3_ := Aside0.mk ((by rw [hg]; exact (below_size (by repeat (first | (with_reducible first | exact HB.out | apply below_alloc | apply pw_below_drewN | apply below_drew1) | exact HB.out))) : w.heap.size ≤ gb119)); clear HB; have HB := n0_; have BK119 := n1_; have GW119 := n2_; have GE119 := n3_; clear n0_ n1_ n2_ n3_; clear hb hbox hg; have hcz21_0 : w20.cell? ⟨gb119, 0, none⟩ = some (.int .i64 a0_0) := (blk_cell BK119.out 0).trans rfl; have hcz21_1 : w20.cell? ⟨gb119, 1, none⟩ = some (.string a0_1) := (blk_cell BK119.out 1).trans rfl; have hcz21_2 : w20.cell? ⟨gb119, 2, none⟩ = some (.int .i64 a0_2) := (blk_cell BK119.out 2).trans rfl; have hcz21_3 : w20.cell? ⟨gb119, 3, none⟩ = some (.string a0_3) := (blk_cell BK119.out 3).trans rfl; have hcz21_4 : w20.cell? ⟨gb119, 4, none⟩ = some (.int .i64 a0_4) := (blk_cell BK119.out 4).trans rfl; have hcz21_5 : w20.cell? ⟨gb119, 5, none⟩ = some (.int .i64 a0_5) := (blk_cell BK119.out 5).trans rfl; have hcz21_6 : w20.cell? ⟨gb119, 6, none⟩ = some (.int .i64 a0_6) := (blk_cell BK119.out 6).trans rfl; have hcz21_7 : w20.cell? ⟨gb119, 7, none⟩ = some (.int .i64 a0_7) := (blk_cell BK119.out 7).trans rfl; have hcz21_8 : w20.cell? ⟨gb119, 8, none⟩ = some (.int .i64 a0_8) := (blk_cell BK119.out 8).trans rfl; have hfz21_0 := blk_frozen BK119.out 0; have hfz21_1 := blk_frozen BK119.out 1; have hfz21_2 := blk_frozen BK119.out 2; have hfz21_3 := blk_frozen BK119.out 3; have hfz21_4 := blk_frozen BK119.out 4; have hfz21_5 := blk_frozen BK119.out 5; have hfz21_6 := blk_frozen BK119.out 6; have hfz21_7 := blk_frozen BK119.out 7; have hfz21_8 := blk_frozen BK119.out 8) | ((with_reducible refine gate_callee (f := 46) rfl ?_); refine goesL_ (some 5) rfl rfl Tryz.func46 (by kernel_rfl) rfl #[.int .i64 a0_0, .int .i64 1, .int .i64 1099511627776] rfl (by (try simp only [List.map_toArray, List.map_cons, List.map_nil]); first | done | rfl | (simp only [List.length_drop, List.length_take]; rfl)) ?_; (with_reducible refine (spec_Within.calls a0_0 1 1099511627776 true _ A2.out).mono ?_); rintro e w' ⟨rfl, ⟨nd, rfl⟩⟩; refine ⟨_, rfl, ?_⟩) | (go_at_call 46; (with_reducible refine (spec_Within.calls a0_5 1 17179869184 true _ A4.out).mono ?_); rintro e w' ⟨rfl, ⟨nd, rfl⟩⟩) | (go_at_call 46; (with_reducible refine (spec_Within.calls a0_2 0 1099511627776 true _ A6.out).mono ?_); rintro e w' ⟨rfl, ⟨nd, rfl⟩⟩) | (go_at_call 46; (with_reducible refine (spec_Within.calls a0_4 0 1099511627776 true _ A8.out).mono ?_); rintro e w' ⟨rfl, ⟨nd, rfl⟩⟩) | (go_at_call 46; (with_reducible refine (spec_Within.calls a0_6 0 1099511627776 true _ A10.out).mono ?_); rintro e w' ⟨rfl, ⟨nd, rfl⟩⟩) | (go_at_call 46; (with_reducible refine (spec_Within.calls a0_7 0 1073741824 true _ A12.out).mono ?_); rintro e w' ⟨rfl, ⟨nd, rfl⟩⟩) | (go_at_call 46; (with_reducible refine (spec_Within.calls a0_8 0 1073741824 true _ A14.out).mono ?_); rintro e w' ⟨rfl, ⟨nd, rfl⟩⟩))
          go_ret
          exact ⟨by first | rfl | (simp [errW_none, errW_some] <;> rfl) | (simp [*, errW_none, errW_some] <;> rfl), by repeat (first | (with_reducible first | exact HB.out | apply below_alloc | apply pw_below_drewN | apply below_drew1 | refine below_set ?_ GE119.out) | exact HB.out)⟩
         ·rw [if_neg c19] at H
          have c19b0 : (a0_1.toList == a0_3.toList) = false := beq_eq_false_iff_ne.mpr c19
          have c19b1 : (a0_1.toList != a0_3.toList) = true := bne_iff_ne.mpr c19
          obtain rfl := Option.some.inj H
          go_enter Tryz.func54, Tryz.ntmps54
          go_wp2_with (first | ((with_reducible refine gate_dst (N := 1) rfl ?_); refine box_event ?hg (N := 1) ?hd (cs := #[.int .i64 a0_0, .string a0_1, .int .i64 a0_2, .string a0_3, .int .i64 a0_4, .int .i64 a0_5, .int .i64 a0_6, .int .i64 a0_7, .int .i64 a0_8]) (t := 68) ?hr ?_; (case hd => rfl); (case hg => rfl); (case hr => first | (go_simp; done) | (go_simp; rfl)); intro gb119 hg w22 hbox hb; have n0_ := Aside0.mk (below_step (by repeat (first | (with_reducible first | exact HB.out | apply below_alloc | apply pw_below_drewN | apply below_drew1) | exact HB.out)) hb); have n1_ := Aside0.mk (hbox); have n2_ := Aside0.mk ((by rw [hg]; exact (below_size (by repeat (first | (with_reducible first | exact HB.out | apply below_alloc | apply pw_below_drewN | apply below_drew1) | exact HB.out))) : w.heap.size ≤ gb119)); have n3_ := Aside0.mk ((by rw [hg]; exact (below_size (by repeat (first | (with_reducible first | exact HB.out | apply below_alloc | apply pw_below_drewN | apply below_drew1) | exact HB.out))) : w.heap.size ≤ gb119)); clear HB; have HB := n0_; have BK119 := n1_; have GW119 := n2_; have GE119 := n3_; clear n0_ n1_ n2_ n3_; clear hb hbox hg; have hcz23_0 : w22.cell? ⟨gb119, 0, none⟩ = some (.int .i64 a0_0) := (blk_cell BK119.out 0).trans rfl; have hcz23_1 : w22.cell? ⟨gb119, 1, none⟩ = some (.string a0_1) := (blk_cell BK119.out 1).trans rfl; have hcz23_2 : w22.cell? ⟨gb119, 2, none⟩ = some (.int .i64 a0_2) := (blk_cell BK119.out 2).trans rfl; have hcz23_3 : w22.cell? ⟨gb119, 3, none⟩ = some (.string a0_3) := (blk_cell BK119.out 3).trans rfl; have hcz23_4 : w22.cell? ⟨gb119, 4, none⟩ = some (.int .i64 a0_4) := (blk_cell BK119.out 4).trans rfl; have hcz23_5 : w22.cell? ⟨gb119, 5, none⟩ = some (.int .i64 a0_5) := (blk_cell BK119.out 5).trans rfl; have hcz23_6 : w22.cell? ⟨gb119, 6, none⟩ = some (.int .i64 a0_6) := (blk_cell BK119.out 6).trans rfl; have hcz23_7 : w22.cell? ⟨gb119, 7, none⟩ = some (.int .i64 a0_7) := (blk_cell BK119.out 7).trans rfl; have hcz23_8 : w22.cell? ⟨gb119, 8, none⟩ = some (.int .i64 a0_8) := (blk_cell BK119.out 8).trans rfl; have hfz23_0 := blk_frozen BK119.out 0; have hfz23_1 := blk_frozen BK119.out 1; have hfz23_2 := blk_frozen BK119.out 2; have hfz23_3 := blk_frozen BK119.out 3; have hfz23_4 := blk_frozen BK119.out 4; have hfz23_5 := blk_frozen BK119.out 5; have hfz23_6 := blk_frozen BK119.out 6; have hfz23_7 := blk_frozen BK119.out 7; have hfz23_8 := blk_frozen BK119.out 8) | ((with_reducible refine gate_callee (f := 46) rfl ?_); refine goesL_ (some 5) rfl rfl Tryz.func46 (by kernel_rfl) rfl #[.int .i64 a0_0, .int .i64 1, .int .i64 1099511627776] rfl (by (try simp only [List.map_toArray, List.map_cons, List.map_nil]); first | done | rfl | (simp only [List.length_drop, List.length_take]; rfl)) ?_; (with_reducible refine (spec_Within.calls a0_0 1 1099511627776 true _ A2.out).mono ?_); rintro e w' ⟨rfl, ⟨nd, rfl⟩⟩; refine ⟨_, rfl, ?_⟩) | (go_at_call 46; (with_reducible refine (spec_Within.calls a0_5 1 17179869184 true _ A4.out).mono ?_); rintro e w' ⟨rfl, ⟨nd, rfl⟩⟩) | (go_at_call 46; (with_reducible refine (spec_Within.calls a0_2 0 1099511627776 true _ A6.out).mono ?_); rintro e w' ⟨rfl, ⟨nd, rfl⟩⟩) | (go_at_call 46; (with_reducible refine (spec_Within.calls a0_4 0 1099511627776 true _ A8.out).mono ?_); rintro e w' ⟨rfl, ⟨nd, rfl⟩⟩) | (go_at_call 46; (with_reducible refine (spec_Within.calls a0_6 0 1099511627776 true _ A10.out).mono ?_); rintro e w' ⟨rfl, ⟨nd, rfl⟩⟩) | (go_at_call 46; (with_reducible refine (spec_Within.calls a0_7 0 1073741824 true _ A12.out).mono ?_); rintro e w' ⟨rfl, ⟨nd, rfl⟩⟩) | (go_at_call 46; (with_reducible refine (spec_Within.calls a0_8 0 1073741824 true _ A14.out).mono ?_); rintro e w' ⟨rfl, ⟨nd, rfl⟩⟩))
          go_ret
          exact ⟨by first | rfl | (simp [errW_none, errW_some] <;> rfl) | (simp [*, errW_none, errW_some] <;> rfl), by repeat (first | (with_reducible first | exact HB.out | apply below_alloc | apply pw_below_drewN | apply below_drew1 | refine below_set ?_ GE119.out) | exact HB.out)⟩
       ·replace c15 := Bool.eq_false_iff.mpr c15
        subst c15
        have H1 : (some false) = some r := by rw [if_neg (show ¬ (false = true) by decide)] at H; exact H
        clear H
        have H := H1
        clear H1
        obtain rfl := Option.some.inj H
        go_enter Tryz.func54, Tryz.ntmps54
        go_wp2_with (first | ((with_reducible refine gate_dst (N := 1) rfl ?_); refine box_event ?hg (N := 1) ?hd (cs := #[.int .i64 a0_0, .string a0_1, .int .i64 a0_2, .string a0_3, .int .i64 a0_4, .int .i64 a0_5, .int .i64 a0_6, .int .i64 a0_7, .int .i64 a0_8]) (t := 68) ?hr ?_; (case hd => rfl); (case hg => rfl); (case hr => first | (go_simp; done) | (go_simp; rfl)); intro gb119 hg w24 hbox hb; have n0_ := Aside0.mk (below_step (by repeat (first | (with_reducible first | exact HB.out | apply below_alloc | apply pw_below_drewN | apply below_drew1) | exact HB.out)) hb); have n1_ := Aside0.mk (hbox); have n2_ := Aside0.mk ((by rw [hg]; exact (below_size (by repeat (first | (with_reducible first | exact HB.out | apply below_alloc | apply pw_below_drewN | apply below_drew1) | exact HB.out))) : w.heap.size ≤ gb119)); have n3_ := Aside0.mk ((by rw [hg]; exact (below_size (by repeat (first | (with_reducible first | exact HB.out | apply below_alloc | apply pw_below_drewN | apply below_drew1) | exact HB.out))) : w.heap.size ≤ gb119)); clear HB; have HB := n0_; have BK119 := n1_; have GW119 := n2_; have GE119 := n3_; clear n0_ n1_ n2_ n3_; clear hb hbox hg; have hcz25_0 : w24.cell? ⟨gb119, 0, none⟩ = some (.int .i64 a0_0) := (blk_cell BK119.out 0).trans rfl; have hcz25_1 : w24.cell? ⟨gb119, 1, none⟩ = some (.string a0_1) := (blk_cell BK119.out 1).trans rfl; have hcz25_2 : w24.cell? ⟨gb119, 2, none⟩ = some (.int .i64 a0_2) := (blk_cell BK119.out 2).trans rfl; have hcz25_3 : w24.cell? ⟨gb119, 3, none⟩ = some (.string a0_3) := (blk_cell BK119.out 3).trans rfl; have hcz25_4 : w24.cell? ⟨gb119, 4, none⟩ = some (.int .i64 a0_4) := (blk_cell BK119.out 4).trans rfl; have hcz25_5 : w24.cell? ⟨gb119, 5, none⟩ = some (.int .i64 a0_5) := (blk_cell BK119.out 5).trans rfl; have hcz25_6 : w24.cell? ⟨gb119, 6, none⟩ = some (.int .i64 a0_6) := (blk_cell BK119.out 6).trans rfl; have hcz25_7 : w24.cell? ⟨gb119, 7, none⟩ = some (.int .i64 a0_7) := (blk_cell BK119.out 7).trans rfl; have hcz25_8 : w24.cell? ⟨gb119, 8, none⟩ = some (.int .i64 a0_8) := (blk_cell BK119.out 8).trans rfl; have hfz25_0 := blk_frozen BK119.out 0; have hfz25_1 := blk_frozen BK119.out 1; have hfz25_2 := blk_frozen BK119.out 2; have hfz25_3 := blk_frozen BK119.out 3; have hfz25_4 := blk_frozen BK119.out 4; have hfz25_5 := blk_frozen BK119.out 5; have hfz25_6 := blk_frozen BK119.out 6; have hfz25_7 := blk_frozen BK119.out 7; have hfz25_8 := blk_frozen BK119.out 8) | ((with_reducible refine gate_callee (f := 46) rfl ?_); refine goesL_ (some 5) rfl rfl Tryz.func46 (by kernel_rfl) rfl #[.int .i64 a0_0, .int .i64 1, .int .i64 1099511627776] rfl (by (try simp only [List.map_toArray, List.map_cons, List.map_nil]); first | done | rfl | (simp only [List.length_drop, List.length_take]; rfl)) ?_; (with_reducible refine (spec_Within.calls a0_0 1 1099511627776 true _ A2.out).mono ?_); rintro e w' ⟨rfl, ⟨nd, rfl⟩⟩; refine ⟨_, rfl, ?_⟩) | (go_at_call 46; (with_reducible refine (spec_Within.calls a0_5 1 17179869184 true _ A4.out).mono ?_); rintro e w' ⟨rfl, ⟨nd, rfl⟩⟩) | (go_at_call 46; (with_reducible refine (spec_Within.calls a0_2 0 1099511627776 true _ A6.out).mono ?_); rintro e w' ⟨rfl, ⟨nd, rfl⟩⟩) | (go_at_call 46; (with_reducible refine (spec_Within.calls a0_4 0 1099511627776 true _ A8.out).mono ?_); rintro e w' ⟨rfl, ⟨nd, rfl⟩⟩) | (go_at_call 46; (with_reducible refine (spec_Within.calls a0_6 0 1099511627776 true _ A10.out).mono ?_); rintro e w' ⟨rfl, ⟨nd, rfl⟩⟩) | (go_at_call 46; (with_reducible refine (spec_Within.calls a0_7 0 1073741824 true _ A12.out).mono ?_); rintro e w' ⟨rfl, ⟨nd, rfl⟩⟩) | (go_at_call 46; (with_reducible refine (spec_Within.calls a0_8 0 1073741824 false _ A14.out).mono ?_); rintro e w' ⟨rfl, ⟨nd, rfl⟩⟩))
        go_ret
        exact ⟨by first | rfl | (simp [errW_none, errW_some] <;> rfl) | (simp [*, errW_none, errW_some] <;> rfl), by repeat (first | (with_reducible first | exact HB.out | apply below_alloc | apply pw_below_drewN | apply below_drew1 | refine below_set ?_ GE119.out) | exact HB.out)⟩
      ·replace c13 := Bool.eq_false_iff.mpr c13
       subst c13
       have H1 : (some false) = some r := by rw [if_neg (show ¬ (false = true) by decide)] at H; exact H
       clear H
       have H := H1
       clear H1
       obtain rfl := Option.some.inj H
       go_enter Tryz.func54, Tryz.ntmps54
       go_wp2_with (first | ((with_reducible refine gate_dst (N := 1) rfl ?_); refine box_event ?hg (N := 1) ?hd (cs := #[.int .i64 a0_0, .string a0_1, .int .i64 a0_2, .string a0_3, .int .i64 a0_4, .int .i64 a0_5, .int .i64 a0_6, .int .i64 a0_7, .int .i64 a0_8]) (t := 68) ?hr ?_; (case hd => rfl); (case hg => rfl); (case hr => first | (go_simp; done) | (go_simp; rfl)); intro gb119 hg w26 hbox hb; have n0_ := Aside0.mk (below_step (by repeat (first | (with_reducible first | exact HB.out | apply below_alloc | apply pw_below_drewN | apply below_drew1) | exact HB.out)) hb); have n1_ := Aside0.mk (hbox); have n2_ := Aside0.mk ((by rw [hg]; exact (below_size (by repeat (first | (with_reducible first | exact HB.out | apply below_alloc | apply pw_below_drewN | apply below_drew1) | exact HB.out))) : w.heap.size ≤ gb119)); have n3_ := Aside0.mk ((by rw [hg]; exact (below_size (by repeat (first | (with_reducible first | exact HB.out | apply below_alloc | apply pw_below_drewN | apply below_drew1) | exact HB.out))) : w.heap.size ≤ gb119)); clear HB; have HB := n0_; have BK119 := n1_; have GW119 := n2_; have GE119 := n3_; clear n0_ n1_ n2_ n3_; clear hb hbox hg; have hcz27_0 : w26.cell? ⟨gb119, 0, none⟩ = some (.int .i64 a0_0) := (blk_cell BK119.out 0).trans rfl; have hcz27_1 : w26.cell? ⟨gb119, 1, none⟩ = some (.string a0_1) := (blk_cell BK119.out 1).trans rfl; have hcz27_2 : w26.cell? ⟨gb119, 2, none⟩ = some (.int .i64 a0_2) := (blk_cell BK119.out 2).trans rfl; have hcz27_3 : w26.cell? ⟨gb119, 3, none⟩ = some (.string a0_3) := (blk_cell BK119.out 3).trans rfl; have hcz27_4 : w26.cell? ⟨gb119, 4, none⟩ = some (.int .i64 a0_4) := (blk_cell BK119.out 4).trans rfl; have hcz27_5 : w26.cell? ⟨gb119, 5, none⟩ = some (.int .i64 a0_5) := (blk_cell BK119.out 5).trans rfl; have hcz27_6 : w26.cell? ⟨gb119, 6, none⟩ = some (.int .i64 a0_6) := (blk_cell BK119.out 6).trans rfl; have hcz27_7 : w26.cell? ⟨gb119, 7, none⟩ = some (.int .i64 a0_7) := (blk_cell BK119.out 7).trans rfl; have hcz27_8 : w26.cell? ⟨gb119, 8, none⟩ = some (.int .i64 a0_8) := (blk_cell BK119.out 8).trans rfl; have hfz27_0 := blk_frozen BK119.out 0; have hfz27_1 := blk_frozen BK119.out 1; have hfz27_2 := blk_frozen BK119.out 2; have hfz27_3 := blk_frozen BK119.out 3; have hfz27_4 := blk_frozen BK119.out 4; have hfz27_5 := blk_frozen BK119.out 5; have hfz27_6 := blk_frozen BK119.out 6; have hfz27_7 := blk_frozen BK119.out 7; have hfz27_8 := blk_frozen BK119.out 8) | ((with_reducible refine gate_callee (f := 46) rfl ?_); refine goesL_ (some 5) rfl rfl Tryz.func46 (by kernel_rfl) rfl #[.int .i64 a0_0, .int .i64 1, .int .i64 1099511627776] rfl (by (try simp only [List.map_toArray, List.map_cons, List.map_nil]); first | done | rfl | (simp only [List.length_drop, List.length_take]; rfl)) ?_; (with_reducible refine (spec_Within.calls a0_0 1 1099511627776 true _ A2.out).mono ?_); rintro e w' ⟨rfl, ⟨nd, rfl⟩⟩; refine ⟨_, rfl, ?_⟩) | (go_at_call 46; (with_reducible refine (spec_Within.calls a0_5 1 17179869184 true _ A4.out).mono ?_); rintro e w' ⟨rfl, ⟨nd, rfl⟩⟩) | (go_at_call 46; (with_reducible refine (spec_Within.calls a0_2 0 1099511627776 true _ A6.out).mono ?_); rintro e w' ⟨rfl, ⟨nd, rfl⟩⟩) | (go_at_call 46; (with_reducible refine (spec_Within.calls a0_4 0 1099511627776 true _ A8.out).mono ?_); rintro e w' ⟨rfl, ⟨nd, rfl⟩⟩) | (go_at_call 46; (with_reducible refine (spec_Within.calls a0_6 0 1099511627776 true _ A10.out).mono ?_); rintro e w' ⟨rfl, ⟨nd, rfl⟩⟩) | (go_at_call 46; (with_reducible refine (spec_Within.calls a0_7 0 1073741824 false _ A12.out).mono ?_); rintro e w' ⟨rfl, ⟨nd, rfl⟩⟩))
       go_ret
       exact ⟨by first | rfl | (simp [errW_none, errW_some] <;> rfl) | (simp [*, errW_none, errW_some] <;> rfl), by repeat (first | (with_reducible first | exact HB.out | apply below_alloc | apply pw_below_drewN | apply below_drew1 | refine below_set ?_ GE119.out) | exact HB.out)⟩
     ·replace c11 := Bool.eq_false_iff.mpr c11
      subst c11
      have H1 : (some false) = some r := by rw [if_neg (show ¬ (false = true) by decide)] at H; exact H
      clear H
      have H := H1
      clear H1
      obtain rfl := Option.some.inj H
      go_enter Tryz.func54, Tryz.ntmps54
      go_wp2_with (first | ((with_reducible refine gate_dst (N := 1) rfl ?_); refine box_event ?hg (N := 1) ?hd (cs := #[.int .i64 a0_0, .string a0_1, .int .i64 a0_2, .string a0_3, .int .i64 a0_4, .int .i64 a0_5, .int .i64 a0_6, .int .i64 a0_7, .int .i64 a0_8]) (t := 68) ?hr ?_; (case hd => rfl); (case hg => rfl); (case hr => first | (go_simp; done) | (go_simp; rfl)); intro gb119 hg w28 hbox hb; have n0_ := Aside0.mk (below_step (by repeat (first | (with_reducible first | exact HB.out | apply below_alloc | apply pw_below_drewN | apply below_drew1) | exact HB.out)) hb); have n1_ := Aside0.mk (hbox); have n2_ := Aside0.mk ((by rw [hg]; exact (below_size (by repeat (first | (with_reducible first | exact HB.out | apply below_alloc | apply pw_below_drewN | apply below_drew1) | exact HB.out))) : w.heap.size ≤ gb119)); have n3_ := Aside0.mk ((by rw [hg]; exact (below_size (by repeat (first | (with_reducible first | exact HB.out | apply below_alloc | apply pw_below_drewN | apply below_drew1) | exact HB.out))) : w.heap.size ≤ gb119)); clear HB; have HB := n0_; have BK119 := n1_; have GW119 := n2_; have GE119 := n3_; clear n0_ n1_ n2_ n3_; clear hb hbox hg; have hcz29_0 : w28.cell? ⟨gb119, 0, none⟩ = some (.int .i64 a0_0) := (blk_cell BK119.out 0).trans rfl; have hcz29_1 : w28.cell? ⟨gb119, 1, none⟩ = some (.string a0_1) := (blk_cell BK119.out 1).trans rfl; have hcz29_2 : w28.cell? ⟨gb119, 2, none⟩ = some (.int .i64 a0_2) := (blk_cell BK119.out 2).trans rfl; have hcz29_3 : w28.cell? ⟨gb119, 3, none⟩ = some (.string a0_3) := (blk_cell BK119.out 3).trans rfl; have hcz29_4 : w28.cell? ⟨gb119, 4, none⟩ = some (.int .i64 a0_4) := (blk_cell BK119.out 4).trans rfl; have hcz29_5 : w28.cell? ⟨gb119, 5, none⟩ = some (.int .i64 a0_5) := (blk_cell BK119.out 5).trans rfl; have hcz29_6 : w28.cell? ⟨gb119, 6, none⟩ = some (.int .i64 a0_6) := (blk_cell BK119.out 6).trans rfl; have hcz29_7 : w28.cell? ⟨gb119, 7, none⟩ = some (.int .i64 a0_7) := (blk_cell BK119.out 7).trans rfl; have hcz29_8 : w28.cell? ⟨gb119, 8, none⟩ = some (.int .i64 a0_8) := (blk_cell BK119.out 8).trans rfl; have hfz29_0 := blk_frozen BK119.out 0; have hfz29_1 := blk_frozen BK119.out 1; have hfz29_2 := blk_frozen BK119.out 2; have hfz29_3 := blk_frozen BK119.out 3; have hfz29_4 := blk_frozen BK119.out 4; have hfz29_5 := blk_frozen BK119.out 5; have hfz29_6 := blk_frozen BK119.out 6; have hfz29_7 := blk_frozen BK119.out 7; have hfz29_8 := blk_frozen BK119.out 8) | ((with_reducible refine gate_callee (f := 46) rfl ?_); refine goesL_ (some 5) rfl rfl Tryz.func46 (by kernel_rfl) rfl #[.int .i64 a0_0, .int .i64 1, .int .i64 1099511627776] rfl (by (try simp only [List.map_toArray, List.map_cons, List.map_nil]); first | done | rfl | (simp only [List.length_drop, List.length_take]; rfl)) ?_; (with_reducible refine (spec_Within.calls a0_0 1 1099511627776 true _ A2.out).mono ?_); rintro e w' ⟨rfl, ⟨nd, rfl⟩⟩; refine ⟨_, rfl, ?_⟩) | (go_at_call 46; (with_reducible refine (spec_Within.calls a0_5 1 17179869184 true _ A4.out).mono ?_); rintro e w' ⟨rfl, ⟨nd, rfl⟩⟩) | (go_at_call 46; (with_reducible refine (spec_Within.calls a0_2 0 1099511627776 true _ A6.out).mono ?_); rintro e w' ⟨rfl, ⟨nd, rfl⟩⟩) | (go_at_call 46; (with_reducible refine (spec_Within.calls a0_4 0 1099511627776 true _ A8.out).mono ?_); rintro e w' ⟨rfl, ⟨nd, rfl⟩⟩) | (go_at_call 46; (with_reducible refine (spec_Within.calls a0_6 0 1099511627776 false _ A10.out).mono ?_); rintro e w' ⟨rfl, ⟨nd, rfl⟩⟩))
      go_ret
      exact ⟨by first | rfl | (simp [errW_none, errW_some] <;> rfl) | (simp [*, errW_none, errW_some] <;> rfl), by repeat (first | (with_reducible first | exact HB.out | apply below_alloc | apply pw_below_drewN | apply below_drew1 | refine below_set ?_ GE119.out) | exact HB.out)⟩
    ·replace c9 := Bool.eq_false_iff.mpr c9
     subst c9
     have H1 : (some false) = some r := by rw [if_neg (show ¬ (false = true) by decide)] at H; exact H
     clear H
     have H := H1
     clear H1
     obtain rfl := Option.some.inj H
     go_enter Tryz.func54, Tryz.ntmps54
     go_wp2_with (first | ((with_reducible refine gate_dst (N := 1) rfl ?_); refine box_event ?hg (N := 1) ?hd (cs := #[.int .i64 a0_0, .string a0_1, .int .i64 a0_2, .string a0_3, .int .i64 a0_4, .int .i64 a0_5, .int .i64 a0_6, .int .i64 a0_7, .int .i64 a0_8]) (t := 68) ?hr ?_; (case hd => rfl); (case hg => rfl); (case hr => first | (go_simp; done) | (go_simp; rfl)); intro gb119 hg w30 hbox hb; have n0_ := Aside0.mk (below_step (by repeat (first | (with_reducible first | exact HB.out | apply below_alloc | apply pw_below_drewN | apply below_drew1) | exact HB.out)) hb); have n1_ := Aside0.mk (hbox); have n2_ := Aside0.mk ((by rw [hg]; exact (below_size (by repeat (first | (with_reducible first | exact HB.out | apply below_alloc | apply pw_below_drewN | apply below_drew1) | exact HB.out))) : w.heap.size ≤ gb119)); have n3_ := Aside0.mk ((by rw [hg]; exact (below_size (by repeat (first | (with_reducible first | exact HB.out | apply below_alloc | apply pw_below_drewN | apply below_drew1) | exact HB.out))) : w.heap.size ≤ gb119)); clear HB; have HB := n0_; have BK119 := n1_; have GW119 := n2_; have GE119 := n3_; clear n0_ n1_ n2_ n3_; clear hb hbox hg; have hcz31_0 : w30.cell? ⟨gb119, 0, none⟩ = some (.int .i64 a0_0) := (blk_cell BK119.out 0).trans rfl; have hcz31_1 : w30.cell? ⟨gb119, 1, none⟩ = some (.string a0_1) := (blk_cell BK119.out 1).trans rfl; have hcz31_2 : w30.cell? ⟨gb119, 2, none⟩ = some (.int .i64 a0_2) := (blk_cell BK119.out 2).trans rfl; have hcz31_3 : w30.cell? ⟨gb119, 3, none⟩ = some (.string a0_3) := (blk_cell BK119.out 3).trans rfl; have hcz31_4 : w30.cell? ⟨gb119, 4, none⟩ = some (.int .i64 a0_4) := (blk_cell BK119.out 4).trans rfl; have hcz31_5 : w30.cell? ⟨gb119, 5, none⟩ = some (.int .i64 a0_5) := (blk_cell BK119.out 5).trans rfl; have hcz31_6 : w30.cell? ⟨gb119, 6, none⟩ = some (.int .i64 a0_6) := (blk_cell BK119.out 6).trans rfl; have hcz31_7 : w30.cell? ⟨gb119, 7, none⟩ = some (.int .i64 a0_7) := (blk_cell BK119.out 7).trans rfl; have hcz31_8 : w30.cell? ⟨gb119, 8, none⟩ = some (.int .i64 a0_8) := (blk_cell BK119.out 8).trans rfl; have hfz31_0 := blk_frozen BK119.out 0; have hfz31_1 := blk_frozen BK119.out 1; have hfz31_2 := blk_frozen BK119.out 2; have hfz31_3 := blk_frozen BK119.out 3; have hfz31_4 := blk_frozen BK119.out 4; have hfz31_5 := blk_frozen BK119.out 5; have hfz31_6 := blk_frozen BK119.out 6; have hfz31_7 := blk_frozen BK119.out 7; have hfz31_8 := blk_frozen BK119.out 8) | ((with_reducible refine gate_callee (f := 46) rfl ?_); refine goesL_ (some 5) rfl rfl Tryz.func46 (by kernel_rfl) rfl #[.int .i64 a0_0, .int .i64 1, .int .i64 1099511627776] rfl (by (try simp only [List.map_toArray, List.map_cons, List.map_nil]); first | done | rfl | (simp only [List.length_drop, List.length_take]; rfl)) ?_; (with_reducible refine (spec_Within.calls a0_0 1 1099511627776 true _ A2.out).mono ?_); rintro e w' ⟨rfl, ⟨nd, rfl⟩⟩; refine ⟨_, rfl, ?_⟩) | (go_at_call 46; (with_reducible refine (spec_Within.calls a0_5 1 17179869184 true _ A4.out).mono ?_); rintro e w' ⟨rfl, ⟨nd, rfl⟩⟩) | (go_at_call 46; (with_reducible refine (spec_Within.calls a0_2 0 1099511627776 true _ A6.out).mono ?_); rintro e w' ⟨rfl, ⟨nd, rfl⟩⟩) | (go_at_call 46; (with_reducible refine (spec_Within.calls a0_4 0 1099511627776 false _ A8.out).mono ?_); rintro e w' ⟨rfl, ⟨nd, rfl⟩⟩))
     go_ret
     exact ⟨by first | rfl | (simp [errW_none, errW_some] <;> rfl) | (simp [*, errW_none, errW_some] <;> rfl), by repeat (first | (with_reducible first | exact HB.out | apply below_alloc | apply pw_below_drewN | apply below_drew1 | refine below_set ?_ GE119.out) | exact HB.out)⟩
   ·replace c7 := Bool.eq_false_iff.mpr c7
    subst c7
    have H1 : (some false) = some r := by rw [if_neg (show ¬ (false = true) by decide)] at H; exact H
    clear H
    have H := H1
    clear H1
    obtain rfl := Option.some.inj H
    go_enter Tryz.func54, Tryz.ntmps54
    go_wp2_with (first | ((with_reducible refine gate_dst (N := 1) rfl ?_); refine box_event ?hg (N := 1) ?hd (cs := #[.int .i64 a0_0, .string a0_1, .int .i64 a0_2, .string a0_3, .int .i64 a0_4, .int .i64 a0_5, .int .i64 a0_6, .int .i64 a0_7, .int .i64 a0_8]) (t := 68) ?hr ?_; (case hd => rfl); (case hg => rfl); (case hr => first | (go_simp; done) | (go_simp; rfl)); intro gb119 hg w32 hbox hb; have n0_ := Aside0.mk (below_step (by repeat (first | (with_reducible first | exact HB.out | apply below_alloc | apply pw_below_drewN | apply below_drew1) | exact HB.out)) hb); have n1_ := Aside0.mk (hbox); have n2_ := Aside0.mk ((by rw [hg]; exact (below_size (by repeat (first | (with_reducible first | exact HB.out | apply below_alloc | apply pw_below_drewN | apply below_drew1) | exact HB.out))) : w.heap.size ≤ gb119)); have n3_ := Aside0.mk ((by rw [hg]; exact (below_size (by repeat (first | (with_reducible first | exact HB.out | apply below_alloc | apply pw_below_drewN | apply below_drew1) | exact HB.out))) : w.heap.size ≤ gb119)); clear HB; have HB := n0_; have BK119 := n1_; have GW119 := n2_; have GE119 := n3_; clear n0_ n1_ n2_ n3_; clear hb hbox hg; have hcz33_0 : w32.cell? ⟨gb119, 0, none⟩ = some (.int .i64 a0_0) := (blk_cell BK119.out 0).trans rfl; have hcz33_1 : w32.cell? ⟨gb119, 1, none⟩ = some (.string a0_1) := (blk_cell BK119.out 1).trans rfl; have hcz33_2 : w32.cell? ⟨gb119, 2, none⟩ = some (.int .i64 a0_2) := (blk_cell BK119.out 2).trans rfl; have hcz33_3 : w32.cell? ⟨gb119, 3, none⟩ = some (.string a0_3) := (blk_cell BK119.out 3).trans rfl; have hcz33_4 : w32.cell? ⟨gb119, 4, none⟩ = some (.int .i64 a0_4) := (blk_cell BK119.out 4).trans rfl; have hcz33_5 : w32.cell? ⟨gb119, 5, none⟩ = some (.int .i64 a0_5) := (blk_cell BK119.out 5).trans rfl; have hcz33_6 : w32.cell? ⟨gb119, 6, none⟩ = some (.int .i64 a0_6) := (blk_cell BK119.out 6).trans rfl; have hcz33_7 : w32.cell? ⟨gb119, 7, none⟩ = some (.int .i64 a0_7) := (blk_cell BK119.out 7).trans rfl; have hcz33_8 : w32.cell? ⟨gb119, 8, none⟩ = some (.int .i64 a0_8) := (blk_cell BK119.out 8).trans rfl; have hfz33_0 := blk_frozen BK119.out 0; have hfz33_1 := blk_frozen BK119.out 1; have hfz33_2 := blk_frozen BK119.out 2; have hfz33_3 := blk_frozen BK119.out 3; have hfz33_4 := blk_frozen BK119.out 4; have hfz33_5 := blk_frozen BK119.out 5; have hfz33_6 := blk_frozen BK119.out 6; have hfz33_7 := blk_frozen BK119.out 7; have hfz33_8 := blk_frozen BK119.out 8) | ((with_reducible refine gate_callee (f := 46) rfl ?_); refine goesL_ (some 5) rfl rfl Tryz.func46 (by kernel_rfl) rfl #[.int .i64 a0_0, .int .i64 1, .int .i64 1099511627776] rfl (by (try simp only [List.map_toArray, List.map_cons, List.map_nil]); first | done | rfl | (simp only [List.length_drop, List.length_take]; rfl)) ?_; (with_reducible refine (spec_Within.calls a0_0 1 1099511627776 true _ A2.out).mono ?_); rintro e w' ⟨rfl, ⟨nd, rfl⟩⟩; refine ⟨_, rfl, ?_⟩) | (go_at_call 46; (with_reducible refine (spec_Within.calls a0_5 1 17179869184 true _ A4.out).mono ?_); rintro e w' ⟨rfl, ⟨nd, rfl⟩⟩) | (go_at_call 46; (with_reducible refine (spec_Within.calls a0_2 0 1099511627776 false _ A6.out).mono ?_); rintro e w' ⟨rfl, ⟨nd, rfl⟩⟩))
    go_ret
    exact ⟨by first | rfl | (simp [errW_none, errW_some] <;> rfl) | (simp [*, errW_none, errW_some] <;> rfl), by repeat (first | (with_reducible first | exact HB.out | apply below_alloc | apply pw_below_drewN | apply below_drew1 | refine below_set ?_ GE119.out) | exact HB.out)⟩
  ·replace c5 := Bool.eq_false_iff.mpr c5
   subst c5
   have H1 : (some false) = some r := by rw [if_neg (show ¬ (false = true) by decide)] at H; exact H
   clear H
   have H := H1
   clear H1
   obtain rfl := Option.some.inj H
   go_enter Tryz.func54, Tryz.ntmps54
   go_wp2_with (first | ((with_reducible refine gate_dst (N := 1) rfl ?_); refine box_event ?hg (N := 1) ?hd (cs := #[.int .i64 a0_0, .string a0_1, .int .i64 a0_2, .string a0_3, .int .i64 a0_4, .int .i64 a0_5, .int .i64 a0_6, .int .i64 a0_7, .int .i64 a0_8]) (t := 68) ?hr ?_; (case hd => rfl); (case hg => rfl); (case hr => first | (go_simp; done) | (go_simp; rfl)); intro gb119 hg w34 hbox hb; have n0_ := Aside0.mk (below_step (by repeat (first | (with_reducible first | exact HB.out | apply below_alloc | apply pw_below_drewN | apply below_drew1) | exact HB.out)) hb); have n1_ := Aside0.mk (hbox); have n2_ := Aside0.mk ((by rw [hg]; exact (below_size (by repeat (first | (with_reducible first | exact HB.out | apply below_alloc | apply pw_below_drewN | apply below_drew1) | exact HB.out))) : w.heap.size ≤ gb119)); have n3_ := Aside0.mk ((by rw [hg]; exact (below_size (by repeat (first | (with_reducible first | exact HB.out | apply below_alloc | apply pw_below_drewN | apply below_drew1) | exact HB.out))) : w.heap.size ≤ gb119)); clear HB; have HB := n0_; have BK119 := n1_; have GW119 := n2_; have GE119 := n3_; clear n0_ n1_ n2_ n3_; clear hb hbox hg; have hcz35_0 : w34.cell? ⟨gb119, 0, none⟩ = some (.int .i64 a0_0) := (blk_cell BK119.out 0).trans rfl; have hcz35_1 : w34.cell? ⟨gb119, 1, none⟩ = some (.string a0_1) := (blk_cell BK119.out 1).trans rfl; have hcz35_2 : w34.cell? ⟨gb119, 2, none⟩ = some (.int .i64 a0_2) := (blk_cell BK119.out 2).trans rfl; have hcz35_3 : w34.cell? ⟨gb119, 3, none⟩ = some (.string a0_3) := (blk_cell BK119.out 3).trans rfl; have hcz35_4 : w34.cell? ⟨gb119, 4, none⟩ = some (.int .i64 a0_4) := (blk_cell BK119.out 4).trans rfl; have hcz35_5 : w34.cell? ⟨gb119, 5, none⟩ = some (.int .i64 a0_5) := (blk_cell BK119.out 5).trans rfl; have hcz35_6 : w34.cell? ⟨gb119, 6, none⟩ = some (.int .i64 a0_6) := (blk_cell BK119.out 6).trans rfl; have hcz35_7 : w34.cell? ⟨gb119, 7, none⟩ = some (.int .i64 a0_7) := (blk_cell BK119.out 7).trans rfl; have hcz35_8 : w34.cell? ⟨gb119, 8, none⟩ = some (.int .i64 a0_8) := (blk_cell BK119.out 8).trans rfl; have hfz35_0 := blk_frozen BK119.out 0; have hfz35_1 := blk_frozen BK119.out 1; have hfz35_2 := blk_frozen BK119.out 2; have hfz35_3 := blk_frozen BK119.out 3; have hfz35_4 := blk_frozen BK119.out 4; have hfz35_5 := blk_frozen BK119.out 5; have hfz35_6 := blk_frozen BK119.out 6; have hfz35_7 := blk_frozen BK119.out 7; have hfz35_8 := blk_frozen BK119.out 8) | ((with_reducible refine gate_callee (f := 46) rfl ?_); refine goesL_ (some 5) rfl rfl Tryz.func46 (by kernel_rfl) rfl #[.int .i64 a0_0, .int .i64 1, .int .i64 1099511627776] rfl (by (try simp only [List.map_toArray, List.map_cons, List.map_nil]); first | done | rfl | (simp only [List.length_drop, List.length_take]; rfl)) ?_; (with_reducible refine (spec_Within.calls a0_0 1 1099511627776 true _ A2.out).mono ?_); rintro e w' ⟨rfl, ⟨nd, rfl⟩⟩; refine ⟨_, rfl, ?_⟩) | (go_at_call 46; (with_reducible refine (spec_Within.calls a0_5 1 17179869184 false _ A4.out).mono ?_); rintro e w' ⟨rfl, ⟨nd, rfl⟩⟩))
   go_ret
   exact ⟨by first | rfl | (simp [errW_none, errW_some] <;> rfl) | (simp [*, errW_none, errW_some] <;> rfl), by repeat (first | (with_reducible first | exact HB.out | apply below_alloc | apply pw_below_drewN | apply below_drew1 | refine below_set ?_ GE119.out) | exact HB.out)⟩
 ·replace c3 := Bool.eq_false_iff.mpr c3
  subst c3
  have H1 : (some false) = some r := by rw [if_neg (show ¬ (false = true) by decide)] at H; exact H
  clear H
  have H := H1
  clear H1
  obtain rfl := Option.some.inj H
  go_enter Tryz.func54, Tryz.ntmps54
  go_wp2_with (first | ((with_reducible refine gate_dst (N := 1) rfl ?_); refine box_event ?hg (N := 1) ?hd (cs := #[.int .i64 a0_0, .string a0_1, .int .i64 a0_2, .string a0_3, .int .i64 a0_4, .int .i64 a0_5, .int .i64 a0_6, .int .i64 a0_7, .int .i64 a0_8]) (t := 68) ?hr ?_; (case hd => rfl); (case hg => rfl); (case hr => first | (go_simp; done) | (go_simp; rfl)); intro gb119 hg w36 hbox hb; have n0_ := Aside0.mk (below_step (by repeat (first | (with_reducible first | exact HB.out | apply below_alloc | apply pw_below_drewN | apply below_drew1) | exact HB.out)) hb); have n1_ := Aside0.mk (hbox); have n2_ := Aside0.mk ((by rw [hg]; exact (below_size (by repeat (first | (with_reducible first | exact HB.out | apply below_alloc | apply pw_below_drewN | apply below_drew1) | exact HB.out))) : w.heap.size ≤ gb119)); have n3_ := Aside0.mk ((by rw [hg]; exact (below_size (by repeat (first | (with_reducible first | exact HB.out | apply below_alloc | apply pw_below_drewN | apply below_drew1) | exact HB.out))) : w.heap.size ≤ gb119)); clear HB; have HB := n0_; have BK119 := n1_; have GW119 := n2_; have GE119 := n3_; clear n0_ n1_ n2_ n3_; clear hb hbox hg; have hcz37_0 : w36.cell? ⟨gb119, 0, none⟩ = some (.int .i64 a0_0) := (blk_cell BK119.out 0).trans rfl; have hcz37_1 : w36.cell? ⟨gb119, 1, none⟩ = some (.string a0_1) := (blk_cell BK119.out 1).trans rfl; have hcz37_2 : w36.cell? ⟨gb119, 2, none⟩ = some (.int .i64 a0_2) := (blk_cell BK119.out 2).trans rfl; have hcz37_3 : w36.cell? ⟨gb119, 3, none⟩ = some (.string a0_3) := (blk_cell BK119.out 3).trans rfl; have hcz37_4 : w36.cell? ⟨gb119, 4, none⟩ = some (.int .i64 a0_4) := (blk_cell BK119.out 4).trans rfl; have hcz37_5 : w36.cell? ⟨gb119, 5, none⟩ = some (.int .i64 a0_5) := (blk_cell BK119.out 5).trans rfl; have hcz37_6 : w36.cell? ⟨gb119, 6, none⟩ = some (.int .i64 a0_6) := (blk_cell BK119.out 6).trans rfl; have hcz37_7 : w36.cell? ⟨gb119, 7, none⟩ = some (.int .i64 a0_7) := (blk_cell BK119.out 7).trans rfl; have hcz37_8 : w36.cell? ⟨gb119, 8, none⟩ = some (.int .i64 a0_8) := (blk_cell BK119.out 8).trans rfl; have hfz37_0 := blk_frozen BK119.out 0; have hfz37_1 := blk_frozen BK119.out 1; have hfz37_2 := blk_frozen BK119.out 2; have hfz37_3 := blk_frozen BK119.out 3; have hfz37_4 := blk_frozen BK119.out 4; have hfz37_5 := blk_frozen BK119.out 5; have hfz37_6 := blk_frozen BK119.out 6; have hfz37_7 := blk_frozen BK119.out 7; have hfz37_8 := blk_frozen BK119.out 8) | ((with_reducible refine gate_callee (f := 46) rfl ?_); refine goesL_ (some 5) rfl rfl Tryz.func46 (by kernel_rfl) rfl #[.int .i64 a0_0, .int .i64 1, .int .i64 1099511627776] rfl (by (try simp only [List.map_toArray, List.map_cons, List.map_nil]); first | done | rfl | (simp only [List.length_drop, List.length_take]; rfl)) ?_; (with_reducible refine (spec_Within.calls a0_0 1 1099511627776 false _ A2.out).mono ?_); rintro e w' ⟨rfl, ⟨nd, rfl⟩⟩; refine ⟨_, rfl, ?_⟩))
  go_ret
  exact ⟨by first | rfl | (simp [errW_none, errW_some] <;> rfl) | (simp [*, errW_none, errW_some] <;> rfl), by repeat (first | (with_reducible first | exact HB.out | apply below_alloc | apply pw_below_drewN | apply below_drew1 | refine below_set ?_ GE119.out) | exact HB.out)⟩

end Go.Proofs.YtnineoajmgneiaaGreat.L
namespace Go.Proofs.YtnineoajmgneiaaGreat.L
open Go.RowKit Go.Proofs.YtnineoajmgneiaaGreatW.PrintWords Go.Proofs.YtnineoajmgneiaaGreatW.PrintLast Go.Proofs.YtnineoajmgneiaaGreatW.PrintMore
attribute [local go_sem] max2_int min2_int max_two min_two max_three min_three max_four min_four   -- for this text's walks alone
set_option linter.unusedVariables false
set_option linter.unusedSimpArgs false

/-! ### spec_Files: function 27 -/
def spec_Files.l0 : Nat → List (List (S68)) → Int → List Int → Int → Int → Int → Int → Int → Int → Int → Int → Int → Int → Option (List Int)
 | 0, _, _, _, _, _, _, _, _, _, _, _, _, _ => none
 | k + 1, x0, x2, x7, x8, x9, x197000, x197001, x197002, x197003, x197004, x197005, x197006, x197007 => if x9 < (x0.length : Int) then (if x9 > x2 then (if x7.length < 17592186044416 then (spec_Files.l0 k x0 x2 (x7 ++ [wrap64 (x8 * x197002)]) (wrap64 (x8 * x197002)) (wrap64 (x9 + 1)) x197000 x197001 x197002 x197003 x197004 x197005 x197006 x197007) else (none)) else (if x7.length < 17592186044416 then (spec_Files.l0 k x0 x2 (x7 ++ [x8]) x8 (wrap64 (x9 + 1)) x197000 x197001 x197002 x197003 x197004 x197005 x197006 x197007) else (none))) else (some x7)
def spec_Files.f (k : Nat) (l0 : List (List (S68))) (a1_0 : Int) (a1_1 : Int) (a1_2 : Int) (a1_3 : Int) (a1_4 : Int) (a1_5 : Int) (a1_6 : Int) (a1_7 : Int) (a2 : Int) : Option (List Int) := spec_Files.l0 k l0 a2 (([a1_6] : List Int)) a1_5 1 a1_0 a1_1 a1_2 a1_3 a1_4 a1_5 a1_6 a1_7
set_option maxHeartbeats 8000000 in
set_option maxRecDepth 100000 in
theorem spec_Files.calls (k : Nat) (A0 : Option Addr) (c0 : Nat) (l0 : List (List (S68))) (a1_0 : Int) (a1_1 : Int) (a1_2 : Int) (a1_3 : Int) (a1_4 : Int) (a1_5 : Int) (a1_6 : Int) (a1_7 : Int) (a2 : Int) (r : List Int) (w : World) (hr0 : Kd.C (Kd.slice 68 k68) w A0 l0.length l0) (hc0 : l0.length ≤ c0) (h : spec_Files.f k l0 a1_0 a1_1 a1_2 a1_3 a1_4 a1_5 a1_6 a1_7 a2 = some r) :
  Calls Tryz.prog 27 #[.slice A0 l0.length c0, .agg #[.int .i64 a1_0, .int .i64 a1_1, .int .i64 a1_2, .int .i64 a1_3, .int .i64 a1_4, .int .i64 a1_5, .int .i64 a1_6, .int .i64 a1_7], .int .i64 a2] w fun e w' => ∃ v0_ : Value, e = .returned (v0_) ∧ Kd.R (Kd.int .i64) 3 w' w.heap.size (fun _ => True) v0_ r ∧ Below w.heap.size w w' := by
 have hu24 := Tryz.underlying24
 have HR0 := Aside0.mk hr0
 have HC0 := Aside0.mk hc0
 clear hr0 hc0
 have HB := Aside0.mk (Below.refl w.heap.size w)
 have H : (spec_Files.l0 k l0 a2 (([a1_6] : List Int)) a1_5 1 a1_0 a1_1 a1_2 a1_3 a1_4 a1_5 a1_6 a1_7) = some r := h
 clear h
 obtain ⟨y197, hy197⟩ : ∃ y_ : List Int, y_ = (([a1_6] : List Int)) := ⟨_, rfl⟩
 replace H : (spec_Files.l0 k l0 a2 y197 a1_5 1 a1_0 a1_1 a1_2 a1_3 a1_4 a1_5 a1_6 a1_7) = some r := by first | (rw [hy197]; with_reducible exact H) | (have H2_ := (Option.bind_some _ _).symm.trans H; rw [hy197]; with_reducible exact H2_) | (have H2_ := (Option.bind_some _ _).symm.trans H; with_reducible exact H2_) | with_reducible exact H | (rw [hy197]; exact H) | exact H
 have Ny197 := Aside0.mk hy197
 clear hy197
 have H' := Aside0.mk H
 clear H
 go_enter Tryz.func27, Tryz.ntmps27
 go_wp2_with (first | ((with_reducible refine gate_dst (N := 4) rfl ?_); refine box_event ?hg (N := 4) ?hd (cs := #[.int .i64 a1_0, .int .i64 a1_1, .int .i64 a1_2, .int .i64 a1_3, .int .i64 a1_4, .int .i64 a1_5, .int .i64 a1_6, .int .i64 a1_7]) (t := 24) ?hr ?_; (case hd => rfl); (case hg => rfl); (case hr => first | (go_simp; done) | (go_simp; rfl)); intro gb196 hg w4 hbox hb; have n0_ := Aside0.mk (below_step (by repeat (first | (with_reducible first | exact HB.out | apply below_alloc | apply pw_below_drewN | apply below_drew1) | exact HB.out)) hb); have n1_ := Aside0.mk (hbox); have n2_ := Aside0.mk ((by rw [hg]; exact (below_size (by repeat (first | (with_reducible first | exact HB.out | apply below_alloc | apply pw_below_drewN | apply below_drew1) | exact HB.out))) : w.heap.size ≤ gb196)); have n3_ := Aside0.mk ((by rw [hg]; exact (below_size (by repeat (first | (with_reducible first | exact HB.out | apply below_alloc | apply pw_below_drewN | apply below_drew1) | exact HB.out))) : w.heap.size ≤ gb196)); clear HB; have HB := n0_; have BK196 := n1_; have GW196 := n2_; have GE196 := n3_; clear n0_ n1_ n2_ n3_; clear hb hbox hg; have hcz5_0 : w4.cell? ⟨gb196, 0, none⟩ = some (.int .i64 a1_0) := (blk_cell BK196.out 0).trans rfl; have hcz5_1 : w4.cell? ⟨gb196, 1, none⟩ = some (.int .i64 a1_1) := (blk_cell BK196.out 1).trans rfl; have hcz5_2 : w4.cell? ⟨gb196, 2, none⟩ = some (.int .i64 a1_2) := (blk_cell BK196.out 2).trans rfl; have hcz5_3 : w4.cell? ⟨gb196, 3, none⟩ = some (.int .i64 a1_3) := (blk_cell BK196.out 3).trans rfl; have hcz5_4 : w4.cell? ⟨gb196, 4, none⟩ = some (.int .i64 a1_4) := (blk_cell BK196.out 4).trans rfl; have hcz5_5 : w4.cell? ⟨gb196, 5, none⟩ = some (.int .i64 a1_5) := (blk_cell BK196.out 5).trans rfl; have hcz5_6 : w4.cell? ⟨gb196, 6, none⟩ = some (.int .i64 a1_6) := (blk_cell BK196.out 6).trans rfl; have hcz5_7 : w4.cell? ⟨gb196, 7, none⟩ = some (.int .i64 a1_7) := (blk_cell BK196.out 7).trans rfl; have hfz5_0 := blk_frozen BK196.out 0; have hfz5_1 := blk_frozen BK196.out 1; have hfz5_2 := blk_frozen BK196.out 2; have hfz5_3 := blk_frozen BK196.out 3; have hfz5_4 := blk_frozen BK196.out 4; have hfz5_5 := blk_frozen BK196.out 5; have hfz5_6 := blk_frozen BK196.out 6; have hfz5_7 := blk_frozen BK196.out 7) | ((with_reducible refine gate_dst (N := 12) rfl ?_); refine Kd.R_lit (Kd.int .i64) _ 3 ?hg (N := 12) ?hd (xs := ([a1_6] : List Int)) (inner := [.int .i64 a1_6]) (ok := fun _ => True) (okp := fun _ => True) ?hr ?hp (fun _ hk => hk) trivial (Below.refl _ _) (Nat.le_refl _) (by simp) ?_; (case hd => rfl); (case hg => rfl); (case hr => first | (go_simp; done) | (go_simp; rfl)); (case hp => exact (Reps.one (show Kd.M (Kd.int .i64) _ _ _ a1_6 [.int .i64 a1_6] from rfl) (Reps.none _ _))); intro v198 w6 ho7 hb hg_ hnew_; clear hg_ hnew_; (first | rw [← Ny197.out] at ho7 | (simp only [Int.reduceToNat] at ho7; rw [← Ny197.out] at ho7)); have n0_ := Aside0.mk (Kd.R_lower ho7 (below_size (by repeat (first | (with_reducible first | exact HB.out | apply below_alloc | apply pw_below_drewN | apply below_drew1 | refine below_set ?_ GE196.out) | exact HB.out)))); have n1_ := Aside0.mk (blk_below (g := gb196) (o := .cells #[.int .i64 a1_0, .int .i64 a1_1, .int .i64 a1_2, .int .i64 a1_3, .int .i64 a1_4, .int .i64 a1_5, .int .i64 a1_6, .int .i64 a1_7] 24 (0, 0)) (by (with_reducible repeat (first | refine blk_drewN ?_ _ | refine blk_drew ?_ | refine blk_alloc ?_ _)); exact BK196.out) hb); have n2_ := Aside0.mk (below_step (by repeat (first | (with_reducible first | exact HB.out | apply below_alloc | apply pw_below_drewN | apply below_drew1 | refine below_set ?_ GE196.out) | exact HB.out)) hb); clear BK196; clear HB; have HO199 := n0_; have BK196 := n1_; have HB := n2_; clear n0_ n1_ n2_; clear hb ho7; have hcz8_0 : w6.cell? ⟨gb196, 0, none⟩ = some (.int .i64 a1_0) := (blk_cell BK196.out 0).trans rfl; have hcz8_1 : w6.cell? ⟨gb196, 1, none⟩ = some (.int .i64 a1_1) := (blk_cell BK196.out 1).trans rfl; have hcz8_2 : w6.cell? ⟨gb196, 2, none⟩ = some (.int .i64 a1_2) := (blk_cell BK196.out 2).trans rfl; have hcz8_3 : w6.cell? ⟨gb196, 3, none⟩ = some (.int .i64 a1_3) := (blk_cell BK196.out 3).trans rfl; have hcz8_4 : w6.cell? ⟨gb196, 4, none⟩ = some (.int .i64 a1_4) := (blk_cell BK196.out 4).trans rfl; have hcz8_5 : w6.cell? ⟨gb196, 5, none⟩ = some (.int .i64 a1_5) := (blk_cell BK196.out 5).trans rfl; have hcz8_6 : w6.cell? ⟨gb196, 6, none⟩ = some (.int .i64 a1_6) := (blk_cell BK196.out 6).trans rfl; have hcz8_7 : w6.cell? ⟨gb196, 7, none⟩ = some (.int .i64 a1_7) := (blk_cell BK196.out 7).trans rfl; have hfz8_0 := blk_frozen BK196.out 0; have hfz8_1 := blk_frozen BK196.out 1; have hfz8_2 := blk_frozen BK196.out 2; have hfz8_3 := blk_frozen BK196.out 3; have hfz8_4 := blk_frozen BK196.out 4; have hfz8_5 := blk_frozen BK196.out 5; have hfz8_6 := blk_frozen BK196.out 6; have hfz8_7 := blk_frozen BK196.out 7))
 go_loopg [7, 8, 9] k (fun kq v7 v8 v9 w' => ∃ (x7_1 : List Int) (x8_1 : Int) (x9_1 : Int), v8 = .int .i64 x8_1 ∧ v9 = .int .i64 x9_1 ∧ Aside0 (spec_Files.l0 kq l0 a2 x7_1 x8_1 x9_1 a1_0 a1_1 a1_2 a1_3 a1_4 a1_5 a1_6 a1_7 = some r) ∧ Aside0 (kq ≤ k) ∧ Aside0 (Kd.R (Kd.int .i64) 3 w' w.heap.size (fun _ => True) v7 x7_1) ∧ Aside0 (w'.heap[gb196]? = some (.cells #[.int .i64 a1_0, .int .i64 a1_1, .int .i64 a1_2, .int .i64 a1_3, .int .i64 a1_4, .int .i64 a1_5, .int .i64 a1_6, .int .i64 a1_7] 24 (0, 0))) ∧ Aside0 (Below w.heap.size w w'))
 case atStart => exact ⟨(y197), (a1_5), (1), (by first | rfl | (simp; done) | (simp [*]; done)), (by first | rfl | (simp; done) | (simp [*]; done)), H', ⟨Nat.le_refl _⟩, ⟨by (with_reducible repeat (first | apply Kd.R_alloc | apply Kd.R_drewN | apply Kd.R_drew)); exact HO199.out⟩, ⟨by (with_reducible repeat (first | refine blk_drewN ?_ _ | refine blk_drew ?_ | refine blk_alloc ?_ _)); exact BK196.out⟩, ⟨by repeat (first | (with_reducible first | exact HB.out | apply below_alloc | apply pw_below_drewN | apply below_drew1 | refine below_set ?_ GE196.out) | exact HB.out)⟩⟩
 case round =>
  clear H'
  try clear c2
  try clear p2
  try clear hcz5_0
  try clear hcz5_1
  try clear hcz5_2
  try clear hcz5_3
  try clear hcz5_4
  try clear hcz5_5
  try clear hcz5_6
  try clear hcz5_7
  try clear hcz8_0
  try clear hcz8_1
  try clear hcz8_2
  try clear hcz8_3
  try clear hcz8_4
  try clear hcz8_5
  try clear hcz8_6
  try clear hcz8_7
  try clear hfz5_0
  try clear hfz5_1
  try clear hfz5_2
  try clear hfz5_3
  try clear hfz5_4
  try clear hfz5_5
  try clear hfz5_6
  try clear hfz5_7
  try clear hfz8_0
  try clear hfz8_1
  try clear hfz8_2
  try clear hfz8_3
  try clear hfz8_4
  try clear hfz8_5
  try clear hfz8_6
  try clear hfz8_7
  obtain ⟨x7_1, x8_1, x9_1, rfl, rfl, HA, HK1, HO_7, BK196, HB⟩ := hrel
  cases gk with
  | zero => exact absurd HA.out (by simp [spec_Files.l0])
  | succ k1 =>
   have H := HA.out
   clear HA
   simp only [spec_Files.l0] at H
   by_cases c9 : x9_1 < (l0.length : Int)
   ·rw [if_pos c9] at H
    have c9b0 : decide (x9_1 < (l0.length : Int)) = true := decide_eq_true c9
    clear c9
    by_cases c10 : x9_1 > a2
    ·rw [if_pos c10] at H
     have c10b0 : decide (a2 < x9_1) = true := decide_eq_true c10
     clear c10
     by_cases c11 : x7_1.length < 17592186044416
     ·rw [if_pos c11] at H
      have LMc11 := Aside0.mk c11
      clear c11
      obtain ⟨y200, hy200⟩ : ∃ y_ : List Int, y_ = (x7_1 ++ [wrap64 (x8_1 * a1_2)]) := ⟨_, rfl⟩
      replace H : (spec_Files.l0 k1 l0 a2 y200 (wrap64 (x8_1 * a1_2)) (wrap64 (x9_1 + 1)) a1_0 a1_1 a1_2 a1_3 a1_4 a1_5 a1_6 a1_7) = some r := by first | (rw [hy200]; with_reducible exact H) | (have H2_ := (Option.bind_some _ _).symm.trans H; rw [hy200]; with_reducible exact H2_) | (have H2_ := (Option.bind_some _ _).symm.trans H; with_reducible exact H2_) | with_reducible exact H | (rw [hy200]; exact H) | exact H
      have Ny200 := Aside0.mk hy200
      clear hy200
      have H' := Aside0.mk H
      clear H
      have hcz12_0 : wr.cell? ⟨gb196, 0, none⟩ = some (.int .i64 a1_0) := (blk_cell BK196.out 0).trans rfl
      have hcz12_1 : wr.cell? ⟨gb196, 1, none⟩ = some (.int .i64 a1_1) := (blk_cell BK196.out 1).trans rfl
      have hcz12_2 : wr.cell? ⟨gb196, 2, none⟩ = some (.int .i64 a1_2) := (blk_cell BK196.out 2).trans rfl
      have hcz12_3 : wr.cell? ⟨gb196, 3, none⟩ = some (.int .i64 a1_3) := (blk_cell BK196.out 3).trans rfl
      have hcz12_4 : wr.cell? ⟨gb196, 4, none⟩ = some (.int .i64 a1_4) := (blk_cell BK196.out 4).trans rfl
      have hcz12_5 : wr.cell? ⟨gb196, 5, none⟩ = some (.int .i64 a1_5) := (blk_cell BK196.out 5).trans rfl
      have hcz12_6 : wr.cell? ⟨gb196, 6, none⟩ = some (.int .i64 a1_6) := (blk_cell BK196.out 6).trans rfl
      have hcz12_7 : wr.cell? ⟨gb196, 7, none⟩ = some (.int .i64 a1_7) := (blk_cell BK196.out 7).trans rfl
      have hfz12_0 := blk_frozen BK196.out 0
      have hfz12_1 := blk_frozen BK196.out 1
      have hfz12_2 := blk_frozen BK196.out 2
      have hfz12_3 := blk_frozen BK196.out 3
      have hfz12_4 := blk_frozen BK196.out 4
      have hfz12_5 := blk_frozen BK196.out 5
      have hfz12_6 := blk_frozen BK196.out 6
      have hfz12_7 := blk_frozen BK196.out 7
      go_wp2_with (first | ((with_reducible refine gate_builtin (b := .append) (xs := #[.tmp 28, .tmp 30]) rfl ?_); at_builtin; refine Kd.R_append (Kd.int .i64) (w0 := w) w.heap.size rfl (.tmp 28) (.tmp 30) 28 3 (.int .i64 0) 8 rfl Tryz.underlying28 info3 rfl (by decide) (by omega) u7 x7_1 (wrap64 (x8_1 * a1_2)) [.int .i64 (wrap64 (x8_1 * a1_2))] (fun _ => True) (fun _ => False) rfl rfl ?aP (fun _ hk => hk.elim) ?aF ?aO ?aB ?aS ?aL ?_; (case aP => exact rfl); (case aB => exact (by repeat (first | (with_reducible first | exact HB.out | apply below_alloc | apply pw_below_drewN | apply below_drew1 | refine below_set ?_ GE196.out) | exact HB.out))); (case aF => exact (fun _ _ => trivial)); (case aO => exact (by (with_reducible repeat (first | apply Kd.R_alloc | apply Kd.R_drewN | apply Kd.R_drew)); exact HO_7.out)); (case aS => exact (below_size (by repeat (first | (with_reducible first | exact HB.out | apply below_alloc | apply pw_below_drewN | apply below_drew1 | refine below_set ?_ GE196.out) | exact HB.out)))); (case aL => have := LMc11.out; omega); intro v201 w13 ho hb hg hat; rw [← Ny200.out] at ho; have n0_ := Aside0.mk (blk_grown (g := gb196) (o := .cells #[.int .i64 a1_0, .int .i64 a1_1, .int .i64 a1_2, .int .i64 a1_3, .int .i64 a1_4, .int .i64 a1_5, .int .i64 a1_6, .int .i64 a1_7] 24 (0, 0)) (by (with_reducible repeat (first | refine blk_drewN ?_ _ | refine blk_drew ?_ | refine blk_alloc ?_ _)); exact BK196.out) hg (Kd.R_ne HO_7.out BK196.out (by decide))); have n1_ := Aside0.mk (hb); have n2_ := Aside0.mk (ho); clear BK196; clear HB; clear HO_7; have BK196 := n0_; have HB := n1_; have HO202 := n2_; clear n0_ n1_ n2_; clear ho hb hg hat))
      go_roundg k1
      case measure => have := HK1.out; omega
      case rel => exact ⟨(y200), (wrap64 (x8_1 * a1_2)), (wrap64 (x9_1 + 1)), (by first | rfl | (simp; done) | (simp [*]; done)), (by first | rfl | (simp; done) | (simp [*]; done)), H', ⟨by have := HK1.out; omega⟩, ⟨by (with_reducible repeat (first | apply Kd.R_alloc | apply Kd.R_drewN | apply Kd.R_drew)); exact HO202.out⟩, ⟨by (with_reducible repeat (first | refine blk_drewN ?_ _ | refine blk_drew ?_ | refine blk_alloc ?_ _)); exact BK196.out⟩, ⟨by repeat (first | (with_reducible first | exact HB.out | apply below_alloc | apply pw_below_drewN | apply below_drew1 | refine below_set ?_ GE196.out) | exact HB.out)⟩⟩
     ·rw [if_neg c11] at H
      exact absurd H (by simp)
    ·rw [if_neg c10] at H
     have c10b0 : decide (a2 < x9_1) = false := decide_eq_false c10
     clear c10
     by_cases c14 : x7_1.length < 17592186044416
     ·rw [if_pos c14] at H
      have LMc14 := Aside0.mk c14
      clear c14
      obtain ⟨y203, hy203⟩ : ∃ y_ : List Int, y_ = (x7_1 ++ [x8_1]) := ⟨_, rfl⟩
      replace H : (spec_Files.l0 k1 l0 a2 y203 x8_1 (wrap64 (x9_1 + 1)) a1_0 a1_1 a1_2 a1_3 a1_4 a1_5 a1_6 a1_7) = some r := by first | (rw [hy203]; with_reducible exact H) | (have H2_ := (Option.bind_some _ _).symm.trans H; rw [hy203]; with_reducible exact H2_) | (have H2_ := (Option.bind_some _ _).symm.trans H; with_reducible exact H2_) | with_reducible exact H | (rw [hy203]; exact H) | exact H
      have Ny203 := Aside0.mk hy203
      clear hy203
      have H' := Aside0.mk H
      clear H
      go_wp2_with (first | ((with_reducible refine gate_builtin (b := .append) (xs := #[.tmp 28, .tmp 30]) rfl ?_); at_builtin; refine Kd.R_append (Kd.int .i64) (w0 := w) w.heap.size rfl (.tmp 28) (.tmp 30) 28 3 (.int .i64 0) 8 rfl Tryz.underlying28 info3 rfl (by decide) (by omega) u7 x7_1 x8_1 [.int .i64 x8_1] (fun _ => True) (fun _ => False) rfl rfl ?aP (fun _ hk => hk.elim) ?aF ?aO ?aB ?aS ?aL ?_; (case aP => exact rfl); (case aB => exact (by repeat (first | (with_reducible first | exact HB.out | apply below_alloc | apply pw_below_drewN | apply below_drew1 | refine below_set ?_ GE196.out) | exact HB.out))); (case aF => exact (fun _ _ => trivial)); (case aO => exact (by (with_reducible repeat (first | apply Kd.R_alloc | apply Kd.R_drewN | apply Kd.R_drew)); exact HO_7.out)); (case aS => exact (below_size (by repeat (first | (with_reducible first | exact HB.out | apply below_alloc | apply pw_below_drewN | apply below_drew1 | refine below_set ?_ GE196.out) | exact HB.out)))); (case aL => have := LMc14.out; omega); intro v204 w15 ho hb hg hat; rw [← Ny203.out] at ho; have n0_ := Aside0.mk (blk_grown (g := gb196) (o := .cells #[.int .i64 a1_0, .int .i64 a1_1, .int .i64 a1_2, .int .i64 a1_3, .int .i64 a1_4, .int .i64 a1_5, .int .i64 a1_6, .int .i64 a1_7] 24 (0, 0)) (by (with_reducible repeat (first | refine blk_drewN ?_ _ | refine blk_drew ?_ | refine blk_alloc ?_ _)); exact BK196.out) hg (Kd.R_ne HO_7.out BK196.out (by decide))); have n1_ := Aside0.mk (hb); have n2_ := Aside0.mk (ho); clear BK196; clear HB; clear HO_7; have BK196 := n0_; have HB := n1_; have HO205 := n2_; clear n0_ n1_ n2_; clear ho hb hg hat))
      go_roundg k1
      case measure => have := HK1.out; omega
      case rel => exact ⟨(y203), (x8_1), (wrap64 (x9_1 + 1)), (by first | rfl | (simp; done) | (simp [*]; done)), (by first | rfl | (simp; done) | (simp [*]; done)), H', ⟨by have := HK1.out; omega⟩, ⟨by (with_reducible repeat (first | apply Kd.R_alloc | apply Kd.R_drewN | apply Kd.R_drew)); exact HO205.out⟩, ⟨by (with_reducible repeat (first | refine blk_drewN ?_ _ | refine blk_drew ?_ | refine blk_alloc ?_ _)); exact BK196.out⟩, ⟨by repeat (first | (with_reducible first | exact HB.out | apply below_alloc | apply pw_below_drewN | apply below_drew1 | refine below_set ?_ GE196.out) | exact HB.out)⟩⟩
     ·rw [if_neg c14] at H
      exact absurd H (by simp)
   ·rw [if_neg c9] at H
    have c9b0 : decide (x9_1 < (l0.length : Int)) = false := decide_eq_false c9
    clear c9
    obtain rfl := Option.some.inj H
    go_wp2
    go_ret
    exact ⟨_, by first | rfl | (simp [errW_none, errW_some] <;> rfl) | (simp [*, errW_none, errW_some] <;> rfl), by (with_reducible repeat (first | apply Kd.R_alloc | apply Kd.R_drewN | apply Kd.R_drew)); exact HO_7.out, by repeat (first | (with_reducible first | exact HB.out | apply below_alloc | apply pw_below_drewN | apply below_drew1 | refine below_set ?_ GE196.out) | exact HB.out)⟩

/-! ### spec_Wanted: function 28 -/
def spec_Wanted.l0 : Nat → List Int → Int → Int → Int → Int → Int → Int → Int → Int → Int → Int → Option (List Int)
 | 0, _, _, _, _, _, _, _, _, _, _, _ => none
 | k + 1, x5, x6, x7, x223000, x223001, x223002, x223003, x223004, x223005, x223006, x223007 => if x7 > 0 then (if 0 ≤ x7 then (if x7 < (x5.length : Int) then (if x223001 = 0 then (none) else (spec_Wanted.l0 k (x5.set (x7 : Int).toNat (mx x6 x223004)) (wrap64 (Int.tdiv x6 x223001)) (wrap64 (x7 - 1)) x223000 x223001 x223002 x223003 x223004 x223005 x223006 x223007)) else (none)) else (none)) else (some x5)
def spec_Wanted.f (k : Nat) (l0 : List (List (S68))) (a1_0 : Int) (a1_1 : Int) (a1_2 : Int) (a1_3 : Int) (a1_4 : Int) (a1_5 : Int) (a1_6 : Int) (a1_7 : Int) : Option (List Int) := if 0 ≤ (l0.length : Int) then (if ((l0.length : Int) : Int).toNat ≤ 35184372088832 then (if 0 ≤ (wrap64 ((l0.length : Int) - 1)) then (if (wrap64 ((l0.length : Int) - 1)) < (l0.length : Int) then ((spec_Size.f k (rd_L3 l0 (wrap64 ((l0.length : Int) - 1)))).bind fun t227 => (spec_Wanted.l0 k (List.replicate ((l0.length : Int) : Int).toNat 0) t227 (wrap64 ((l0.length : Int) - 1)) a1_0 a1_1 a1_2 a1_3 a1_4 a1_5 a1_6 a1_7)) else (none)) else (none)) else (none)) else (none)
/-! ### spec_StepsOk: function 33 -/
mutual
def spec_StepsOk.l0 : Nat → Int → List (S42) → Int → Int → Int → Int → Int → Int → Int → Int → Int → Int → Option (Bool)
 | 0, _, _, _, _, _, _, _, _, _, _, _, _ => none
 | k + 1, x5, x8, x9, x10, x274000, x274001, x274002, x274003, x274004, x274005, x274006, x274007 => if x10 < x9 then (if 0 ≤ x10 then (if x10 < (x8.length : Int) then (if ((rd_T42 x8 x10).f0) = 0 then (if ((rd_T42 x8 x10).f1) = 0 then (spec_StepsOk.j1 k x5 x8 x9 x10 (((rd_T42 x8 x10).f2) == 0) x274000 x274001 x274002 x274003 x274004 x274005 x274006 x274007 ((rd_T42 x8 x10).f0) ((rd_T42 x8 x10).f1) ((rd_T42 x8 x10).f2) ((rd_T42 x8 x10).f3) ((rd_T42 x8 x10).f4)) else (spec_StepsOk.j1 k x5 x8 x9 x10 false x274000 x274001 x274002 x274003 x274004 x274005 x274006 x274007 ((rd_T42 x8 x10).f0) ((rd_T42 x8 x10).f1) ((rd_T42 x8 x10).f2) ((rd_T42 x8 x10).f3) ((rd_T42 x8 x10).f4))) else (spec_StepsOk.j1 k x5 x8 x9 x10 false x274000 x274001 x274002 x274003 x274004 x274005 x274006 x274007 ((rd_T42 x8 x10).f0) ((rd_T42 x8 x10).f1) ((rd_T42 x8 x10).f2) ((rd_T42 x8 x10).f3) ((rd_T42 x8 x10).f4))) else (none)) else (none)) else (some (decide (x5 ≤ 1)))
def spec_StepsOk.j1 : Nat → Int → List (S42) → Int → Int → Bool → Int → Int → Int → Int → Int → Int → Int → Int → Int → Int → Int → Int → Int → Option (Bool)
 | 0, _, _, _, _, _, _, _, _, _, _, _, _, _, _, _, _, _, _ => none
 | k + 1, x5, x8, x9, x10, x26, x274000, x274001, x274002, x274003, x274004, x274005, x274006, x274007, x276000, x276001, x276002, x276003, x276004 => if x26 = true then (spec_StepsOk.j2 k (wrap64 (x5 + 1)) x8 x9 x10 x274000 x274001 x274002 x274003 x274004 x274005 x274006 x274007 x276000 x276001 x276002 x276003 x276004) else (spec_StepsOk.j2 k x5 x8 x9 x10 x274000 x274001 x274002 x274003 x274004 x274005 x274006 x274007 x276000 x276001 x276002 x276003 x276004)
def spec_StepsOk.j2 : Nat → Int → List (S42) → Int → Int → Int → Int → Int → Int → Int → Int → Int → Int → Int → Int → Int → Int → Int → Option (Bool)
 | 0, _, _, _, _, _, _, _, _, _, _, _, _, _, _, _, _, _ => none
 | k + 1, x5, x8, x9, x10, x274000, x274001, x274002, x274003, x274004, x274005, x274006, x274007, x276000, x276001, x276002, x276003, x276004 => if x276000 = 0 then ((spec_Within.f x276001 0 (wrap64 (x274000 - 1))).bind fun t276 => (if t276 = true then ((spec_Within.f x276002 0 100).bind fun t277 => (if t277 = true then ((spec_Within.f x276003 0 1000).bind fun t278 => (if t278 = true then ((spec_Within.f x276004 0 1099511627776).bind fun t279 => (if t279 = true then (spec_StepsOk.l0 k x5 x8 x9 (wrap64 (x10 + 1)) x274000 x274001 x274002 x274003 x274004 x274005 x274006 x274007) else (some false))) else (some false))) else (some false))) else (some false))) else (if x276000 = 1 then ((spec_Within.f x276001 0 (wrap64 (x274000 - 1))).bind fun t280 => (if t280 = true then ((spec_Within.f x276002 0 100).bind fun t281 => (if t281 = true then ((spec_Within.f x276003 0 1000).bind fun t282 => (if t282 = true then ((spec_Within.f x276004 0 1099511627776).bind fun t283 => (if t283 = true then (spec_StepsOk.l0 k x5 x8 x9 (wrap64 (x10 + 1)) x274000 x274001 x274002 x274003 x274004 x274005 x274006 x274007) else (some false))) else (some false))) else (some false))) else (some false))) else (some false))
end
def spec_StepsOk.f (k : Nat) (l0 : List (S42)) (a1_0 : Int) (a1_1 : Int) (a1_2 : Int) (a1_3 : Int) (a1_4 : Int) (a1_5 : Int) (a1_6 : Int) (a1_7 : Int) : Option (Bool) := spec_StepsOk.l0 k 0 l0 (l0.length : Int) 0 a1_0 a1_1 a1_2 a1_3 a1_4 a1_5 a1_6 a1_7
/-! ### laws_fill: function 32 -/
def laws_fill.f (a0 : Int) (a1 : Int) : Option (Int × Int × Int × Int × Int) := some (0, a0, a1, 20, 0)
end Go.Proofs.YtnineoajmgneiaaGreat.L
