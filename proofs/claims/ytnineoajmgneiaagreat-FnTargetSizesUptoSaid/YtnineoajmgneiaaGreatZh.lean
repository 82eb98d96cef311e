/- Printed: the contract of spec.Wanted. -/
import Derived.Test.YtnineoajmgneiaaGreatZg
namespace Go.Proofs.YtnineoajmgneiaaGreatW.PrintWords
open Go.RowKit
section
variable {P : Program} {ops : Array Oper} {rest : List Oper} {o : Oper} {a : Act} {Q : Exit → Act → World → Prop}
theorem store_event {W w1 : World} (hgd : o.guard = none) {t : TypeId} {p : Tmp} {v : Operand} (_ho : o.op = .store t (.tmp p) v) (hN : o.dst = none)
    (hrun : (execOp a.eval o).run P W = .ok .skip w1) (h : ∀ w', w' = w1 → wpList P ops Q rest a w') : wpList P ops Q (o :: rest) a W := by
  refine wpList_plain hgd fun K hK => ?_
  unfold Oper.wp
  rw [hrun]
  show K (a.put o.dst undef) w1
  rw [hN]
  exact hK _ _ (h _ rfl)
end
section
variable {P : Program} {ops : Array Oper} {rest : List Oper} {o : Oper} {a : Act} {Q : Exit → Act → World → Prop} {W : World}
theorem gate_store {t : TypeId} {p : Tmp} {v : Operand} (_ho : o.op = .store t (.tmp p) v) (h : wpList P ops Q (o :: rest) a W) : wpList P ops Q (o :: rest) a W := h
end
section
variable {P : Program}
theorem cut_from (t e : TypeId) (kl : IntKind) {i : TypeInfo} (ht : P.underlying t = some (.slice e)) (hi : P.info? e = some i) (size : Nat) (hsz : i.size = size) (A : Option Addr) (n c : Nat) (j : Int) (h0 : 0 ≤ j) (hm : j ≤ n) :
    ∀ W : World, (Instr.slice t (.slice A n c) (some (.int kl j)) none none).run P W = .ok (.slice (if c = j.toNat then A else A.map (·.add (j.toNat * size))) (n - j.toNat) (c - j.toNat)) W := by
  intro W
  have hel : P.elem t = e := by simp [Program.elem, ht]
  have hu : P.underlying t = some (.slice (P.elem t)) := by rw [hel]; exact ht
  rw [run_slice_l W t A n c hu kl j h0 hm, hel]
  simp [sizeOf, typeInfo, hi, hsz, sliced, Result.andThen]
end
namespace Kd
section
variable {α : Type} {k : Kd α} {w : World} {A : Option Addr} {xs : List α} {m c : Nat}
theorem C_drop (h : k.C w A xs.length xs) (hm : m ≤ xs.length) (hc : xs.length ≤ c) : k.C w (if c = m then A else A.map (·.add (m * k.sz))) (xs.drop m).length (xs.drop m) := by
  have hl : (xs.drop m).length = xs.length - m := List.length_drop
  refine ⟨rfl, by rw [hl]; have := h.2.1; omega, fun hp => ?_⟩
  rw [hl] at hp
  obtain ⟨ad, rfl, hcell⟩ := h.2.2 (by omega)
  rw [if_neg (by omega)]
  refine ⟨ad.add (m * k.sz), rfl, fun j p hj => ?_⟩
  rw [List.getElem?_drop] at hj
  obtain ⟨cs, h1, h2, h3⟩ := hcell (m + j) p hj
  refine ⟨cs, h1, h2, fun i u hu => ?_⟩
  rw [add_add, show m * k.sz + (j * k.sz + i) = (m + j) * k.sz + i by rw [Nat.add_mul]; omega]
  exact h3 i u hu
end
end Kd
namespace Kd
section
variable {α : Type} {d : Kd α} {W : World} {g n : Nat} {S ok : Nat → Prop} {A : Option Addr} {ad : Addr} {xs : List α}
theorem C_not_empty (h : d.C W (some ad) n xs) (hn : 0 < n) (hs : 0 < d.sz) : W.cell? ad ≠ none := by
  obtain ⟨ad', he, hc⟩ := h.2.2 hn
  injection he with he
  subst he
  obtain ⟨c, hcl, _, hcell⟩ := hc 0 _ (List.getElem?_eq_getElem (by rw [h.1]; exact hn))
  have h1 := hcell 0 _ (List.getElem?_eq_getElem (by omega))
  rw [Nat.zero_mul, Nat.zero_add, Addr.add_zero'] at h1
  rw [h1]
  exact Option.some_ne_none _
theorem C_lt (h : d.C W (some ad) n xs) (hn : 0 < n) (hs : 0 < d.sz) : ad.block < W.heap.size := by
  cases hc : W.cell? ad with
  | none => exact absurd hc (C_not_empty h hn hs)
  | some v => exact World.block_lt_of_cell? W ad hc
end
end Kd
section
variable {w W W2 : World} {S S2 S' : Nat → Prop}
theorem cell_kept {a : Addr} {v : Value} (hc : W.cell? a = some v) (hk : Kept W W2 S) (hne : ¬ S a.block) : W2.cell? a = some v := by
  have := hk.2 a.block (World.block_lt_of_cell? W a hc) hne
  simpa [World.cell?, this] using hc
end
namespace Kd
section
variable {α : Type} {d : Kd α} {e base n m : Nat} {ok : Nat → Prop} {w w' : World} {v : Value} {A : Option Addr} {xs : List α}
theorem C_foot_neS {S : Nat → Prop} (hd : ∀ {W W' : World} {x : α} {cs : List Value}, d.K W x cs → d.K W' x cs) (h : d.C w A n xs) (hf : ∀ ad, A = some ad → 0 < n → ¬ S ad.block) : ∀ W', Kept w W' S → d.C W' A n xs := by
  intro W' hk
  refine ⟨h.1, h.2.1, fun hn => ?_⟩
  obtain ⟨ad, he, hc⟩ := h.2.2 hn
  refine ⟨ad, he, fun j p hj => ?_⟩
  obtain ⟨cs, h1, h2, h3⟩ := hc j p hj
  exact ⟨cs, h1, hd h2, fun i u hu => cell_kept (h3 i u hu) hk (by rw [add_block]; exact hf ad he hn)⟩
end
end Kd
namespace Kd
section
variable {α : Type} {enc : α → Value} {h1 : ∀ x, (enc x).oneCell' = true} {e base g n cap : Nat} {ok : Nat → Prop} {W : World} {xs : List α}
theorem R_putg (h : (scalar enc h1).R e W base ok (.slice (some ⟨g, 0, none⟩) n cap) xs) (i : Int) (x : α) : (scalar enc h1).R e (W.setCell ⟨g, i.toNat, none⟩ (enc x)) base ok (.slice (some ⟨g, 0, none⟩) n cap) (xs.set i.toNat x) ∧ W.grownBy (W.setCell ⟨g, i.toNat, none⟩ (enc x)) (some g) := by
  obtain ⟨rfl, _⟩ := R_reads' h
  exact R_put h i x
end
end Kd
end Go.Proofs.YtnineoajmgneiaaGreatW.PrintWords
namespace Go.Proofs.YtnineoajmgneiaaGreat.L
open Go.RowKit Go.Proofs.YtnineoajmgneiaaGreatW.PrintWords Go.Proofs.YtnineoajmgneiaaGreatW.PrintLast Go.Proofs.YtnineoajmgneiaaGreatW.PrintMore
attribute [local go_sem] max2_int min2_int max_two min_two max_three min_three max_four min_four
set_option linter.unusedVariables false
set_option linter.unusedSimpArgs false
set_option maxHeartbeats 8000000 in
set_option maxRecDepth 100000 in
theorem spec_Wanted.calls (k : Nat) (A0 : Option Addr) (c0 : Nat) (l0 : List (List (S68))) (a1_0 : Int) (a1_1 : Int) (a1_2 : Int) (a1_3 : Int) (a1_4 : Int) (a1_5 : Int) (a1_6 : Int) (a1_7 : Int) (r : List Int) (w : World) (hr0 : Kd.C (Kd.slice 68 k68) w A0 l0.length l0) (hc0 : l0.length ≤ c0) (h : spec_Wanted.f k l0 a1_0 a1_1 a1_2 a1_3 a1_4 a1_5 a1_6 a1_7 = some r) :
  Calls Tryz.prog 28 #[.slice A0 l0.length c0, .agg #[.int .i64 a1_0, .int .i64 a1_1, .int .i64 a1_2, .int .i64 a1_3, .int .i64 a1_4, .int .i64 a1_5, .int .i64 a1_6, .int .i64 a1_7]] w fun e w' => ∃ v0_ : Value, e = .returned (v0_) ∧ Kd.R (Kd.int .i64) 3 w' w.heap.size (fun _ => True) v0_ r ∧ Below w.heap.size w w' := by
 have hu24 := Tryz.underlying24
 have HR0 := Aside0.mk hr0
 have HC0 := Aside0.mk hc0
 clear hr0 hc0
 have HB := Aside0.mk (Below.refl w.heap.size w)
 have H : (if 0 ≤ (l0.length : Int) then (if ((l0.length : Int) : Int).toNat ≤ 35184372088832 then (if 0 ≤ (wrap64 ((l0.length : Int) - 1)) then (if (wrap64 ((l0.length : Int) - 1)) < (l0.length : Int) then ((spec_Size.f k (rd_L3 l0 (wrap64 ((l0.length : Int) - 1)))).bind fun t227 => (spec_Wanted.l0 k (List.replicate ((l0.length : Int) : Int).toNat 0) t227 (wrap64 ((l0.length : Int) - 1)) a1_0 a1_1 a1_2 a1_3 a1_4 a1_5 a1_6 a1_7)) else (none)) else (none)) else (none)) else (none)) = some r := h
 clear h
 by_cases c3 : 0 ≤ (l0.length : Int)
 ·rw [if_pos c3] at H
  have c3b0 := eq_true c3
  have c3b1 : decide (0 ≤ (l0.length : Int)) = true := decide_eq_true c3
  clear c3
  by_cases c4 : ((l0.length : Int) : Int).toNat ≤ 35184372088832
  ·rw [if_pos c4] at H
   have c4b0 := eq_true c4
   have c4b1 : decide (((l0.length : Int) : Int).toNat ≤ 35184372088832) = true := decide_eq_true c4
   clear c4
   obtain ⟨y223, hy223⟩ : ∃ y_ : List Int, y_ = (List.replicate ((l0.length : Int) : Int).toNat 0) := ⟨_, rfl⟩
   replace H : (if 0 ≤ (wrap64 ((l0.length : Int) - 1)) then (if (wrap64 ((l0.length : Int) - 1)) < (l0.length : Int) then ((spec_Size.f k (rd_L3 l0 (wrap64 ((l0.length : Int) - 1)))).bind fun t227 => (spec_Wanted.l0 k y223 t227 (wrap64 ((l0.length : Int) - 1)) a1_0 a1_1 a1_2 a1_3 a1_4 a1_5 a1_6 a1_7)) else (none)) else (none)) = some r := by first | (rw [hy223]; with_reducible exact H) | (have H2_ := (Option.bind_some _ _).symm.trans H; rw [hy223]; with_reducible exact H2_) | (have H2_ := (Option.bind_some _ _).symm.trans H; with_reducible exact H2_) | with_reducible exact H | (rw [hy223]; exact H) | exact H
   have Ny223 := Aside0.mk hy223
   clear hy223
   obtain ⟨ji5, hji5⟩ : ∃ j_ : Int, (wrap64 ((l0.length : Int) - 1)) = j_ := ⟨_, rfl⟩
   replace H : (if 0 ≤ (ji5) then (if (ji5) < (l0.length : Int) then ((spec_Size.f k (rd_L3 l0 (ji5))).bind fun t227 => (spec_Wanted.l0 k y223 t227 ji5 a1_0 a1_1 a1_2 a1_3 a1_4 a1_5 a1_6 a1_7)) else (none)) else (none)) = some r := by first | (rw [hji5] at H; exact H) | (simp only [hji5] at H ⊢; exact H)
   have hji5w : (IntKind.i64.wrap ((l0.length : Int) - 1)) = ji5 := (i64_w _).trans hji5
   by_cases c6 : 0 ≤ (ji5)
   ·rw [if_pos c6] at H
    have c6b0 : decide (0 ≤ (ji5)) = true := decide_eq_true c6
    clear c6
    by_cases c7 : (ji5) < (l0.length : Int)
    ·rw [if_pos c7] at H
     have c7b0 : decide ((ji5) < (l0.length : Int)) = true := decide_eq_true c7
     clear c7
     replace H := Option.bind_eq_some_iff.mp H
     obtain ⟨t227, A80, H⟩ := H
     replace H : (spec_Wanted.l0 k y223 t227 ji5 a1_0 a1_1 a1_2 a1_3 a1_4 a1_5 a1_6 a1_7) = some r := H
     have A8 := Aside0.mk A80
     clear A80
     have H' := Aside0.mk H
     clear H
     go_enter Tryz.func28, Tryz.ntmps28
     go_wp2_with (first | ((with_reducible refine gate_dst (N := 3) rfl ?_); refine box_event ?hg (N := 3) ?hd (cs := #[.int .i64 a1_0, .int .i64 a1_1, .int .i64 a1_2, .int .i64 a1_3, .int .i64 a1_4, .int .i64 a1_5, .int .i64 a1_6, .int .i64 a1_7]) (t := 24) ?hr ?_; (case hd => rfl); (case hg => rfl); (case hr => first | (go_simp; done) | (go_simp; rfl)); intro gb222 hg w9 hbox hb; have n0_ := Aside0.mk (below_step (by repeat (first | (with_reducible first | exact HB.out | apply below_alloc | apply pw_below_drewN | apply below_drew1) | exact HB.out)) hb); have n1_ := Aside0.mk (hbox); have n2_ := Aside0.mk ((by rw [hg]; exact (below_size (by repeat (first | (with_reducible first | exact HB.out | apply below_alloc | apply pw_below_drewN | apply below_drew1) | exact HB.out))) : w.heap.size ≤ gb222)); have n3_ := Aside0.mk ((by rw [hg]; exact (below_size (by repeat (first | (with_reducible first | exact HB.out | apply below_alloc | apply pw_below_drewN | apply below_drew1) | exact HB.out))) : w.heap.size ≤ gb222)); clear HB; have HB := n0_; have BK222 := n1_; have GW222 := n2_; have GE222 := n3_; clear n0_ n1_ n2_ n3_; clear hb hbox hg) | ((with_reducible refine gate_dst (N := 10) rfl ?_); refine Kd.R_make (Kd.int .i64) _ 3 rfl (N := 10) rfl 28 _ _ rfl (l0.length : Int) rfl rfl Tryz.underlying28 (.int .i64 0) 8 info3 rfl (by decide) (by omega) 0 (ok := fun _ => True) (okp := fun _ => True) rfl (fun _ hk => hk) trivial (of_decide_eq_true (by first | (with_reducible assumption) | assumption)) (Nat.le_trans (Nat.mul_le_mul_right _ (of_decide_eq_true (by first | (with_reducible assumption) | assumption) : (l0.length : Int).toNat ≤ 35184372088832)) (by omega)) (Below.refl _ _) (Nat.le_refl _) ?_; intro v224 w10 ho11 hb hg_ hnew_; clear hg_ hnew_; (first | rw [← Ny223.out] at ho11 | (simp only [Int.reduceToNat] at ho11; rw [← Ny223.out] at ho11)); have n0_ := Aside0.mk (Kd.R_lower ho11 (below_size (by repeat (first | (with_reducible first | exact HB.out | apply below_alloc | apply pw_below_drewN | apply below_drew1 | refine below_set ?_ GE222.out) | exact HB.out)))); have n1_ := Aside0.mk (blk_below (g := gb222) (o := .cells #[.int .i64 a1_0, .int .i64 a1_1, .int .i64 a1_2, .int .i64 a1_3, .int .i64 a1_4, .int .i64 a1_5, .int .i64 a1_6, .int .i64 a1_7] 24 (0, 0)) (by (with_reducible repeat (first | refine blk_drewN ?_ _ | refine blk_drew ?_ | refine blk_alloc ?_ _)); exact BK222.out) hb); have n2_ := Aside0.mk (below_step (by repeat (first | (with_reducible first | exact HB.out | apply below_alloc | apply pw_below_drewN | apply below_drew1 | refine below_set ?_ GE222.out) | exact HB.out)) hb); clear BK222; clear HB; have HO225 := n0_; have BK222 := n1_; have HB := n2_; clear n0_ n1_ n2_; clear hb ho11; have p226 : 0 ≤ ((ji5) : Int) := of_decide_eq_true (by first | (with_reducible assumption) | assumption); have q226 : (ji5) < (l0.length : Int) := of_decide_eq_true (by first | (with_reducible assumption) | assumption); obtain ⟨ad226, A226_0, c226_0, e226, hx226_0, hl226_0, hi226_0⟩ := at_L3 HR0.out (ji5) p226 q226; cases e226; replace hx226_0 := (HB.out.cell (World.block_lt_of_cell? w _ hx226_0)).trans hx226_0; have HR226_0 := Aside0.mk hi226_0; have HC226_0 := Aside0.mk hl226_0; clear hi226_0 hl226_0; replace p226 := eq_true p226; replace q226 := eq_true q226) | ((with_reducible refine gate_callee (f := 50) rfl ?_); refine goesL_ (some 17) rfl rfl Tryz.func50 (by kernel_rfl) rfl #[.slice A226_0 (rd_L3 l0 (ji5)).length c226_0] rfl (by (try simp only [List.map_toArray, List.map_cons, List.map_nil]); first | done | (simp only [hji5]; rfl) | rfl | (simp only [List.length_drop, List.length_take]; rfl)) ?_; (with_reducible refine (spec_Size.calls k _ _ (rd_L3 l0 (ji5)) t227 _ ?side1 ?side2 A8.out).mono ?_); (case side1 => repeat (first | exact (Kd.C_below HR226_0.out HB.out) | (with_reducible refine Kd.C_alloc ?_ _) | (with_reducible refine Kd.C_drewN ?_ _) | (with_reducible refine Kd.C_drew ?_))); (case side2 => exact HC226_0.out); rintro e w12 ⟨rfl, hb⟩; refine ⟨_, rfl, ?_⟩; have n0_ := Aside0.mk (Kd.R_below (by (with_reducible repeat (first | apply Kd.R_alloc | apply Kd.R_drewN | apply Kd.R_drew)); exact HO225.out) hb); have n1_ := Aside0.mk (blk_below (g := gb222) (o := .cells #[.int .i64 a1_0, .int .i64 a1_1, .int .i64 a1_2, .int .i64 a1_3, .int .i64 a1_4, .int .i64 a1_5, .int .i64 a1_6, .int .i64 a1_7] 24 (0, 0)) (by (with_reducible repeat (first | refine blk_drewN ?_ _ | refine blk_drew ?_ | refine blk_alloc ?_ _)); exact BK222.out) hb); have n2_ := Aside0.mk (below_step (by repeat (first | (with_reducible first | exact HB.out | apply below_alloc | apply pw_below_drewN | apply below_drew1 | refine below_set ?_ GE222.out) | exact HB.out)) hb); clear HO225; clear BK222; clear HB; have HO225 := n0_; have BK222 := n1_; have HB := n2_; clear n0_ n1_ n2_; (try clear hb); (try clear hb2); (try clear hk); (try clear hi)))
     go_loopg [6, 7] k (fun kq v6 v7 w' => ∃ (x5_1 : List Int) (x6_1 : Int) (x7_1 : Int), v6 = .int .i64 x6_1 ∧ v7 = .int .i64 x7_1 ∧ Aside0 (spec_Wanted.l0 kq x5_1 x6_1 x7_1 a1_0 a1_1 a1_2 a1_3 a1_4 a1_5 a1_6 a1_7 = some r) ∧ Aside0 (kq ≤ k) ∧ Aside0 (Kd.R (Kd.int .i64) 3 w' w.heap.size (fun _ => True) v224 x5_1) ∧ Aside0 (w'.heap[gb222]? = some (.cells #[.int .i64 a1_0, .int .i64 a1_1, .int .i64 a1_2, .int .i64 a1_3, .int .i64 a1_4, .int .i64 a1_5, .int .i64 a1_6, .int .i64 a1_7] 24 (0, 0))) ∧ Aside0 (Below w.heap.size w w'))
     case atStart => exact ⟨(y223), (t227), (ji5), (by first | rfl | (simp; done) | (simp [*]; done)), (by first | rfl | (simp; done) | (simp only [← hji5] <;> (first | rfl | simp)) | (simp [*]; done)), H', ⟨Nat.le_refl _⟩, ⟨by (with_reducible repeat (first | apply Kd.R_alloc | apply Kd.R_drewN | apply Kd.R_drew)); exact HO225.out⟩, ⟨by (with_reducible repeat (first | refine blk_drewN ?_ _ | refine blk_drew ?_ | refine blk_alloc ?_ _)); exact BK222.out⟩, ⟨by repeat (first | (with_reducible first | exact HB.out | apply below_alloc | apply pw_below_drewN | apply below_drew1 | refine below_set ?_ GE222.out) | exact HB.out)⟩⟩
     case round =>
      clear H'
      try clear c2
      try clear p2
      try clear q2
      try clear hx2
      try clear c3
      try clear c3b0
      try clear c3b1
      try clear c4
      try clear c4b0
      try clear c4b1
      try clear c5
      try clear c6
      try clear c6b0
      try clear p6
      try clear c7
      try clear c7b0
      try clear hx226_0
      try clear p226
      try clear q226
      obtain ⟨x5_1, x6_1, x7_1, rfl, rfl, HA, HK1, HO_5, BK222, HB⟩ := hrel
      cases gk with
      | zero => exact absurd HA.out (by simp [spec_Wanted.l0])
      | succ k1 =>
       have H := HA.out
       clear HA
       simp only [spec_Wanted.l0] at H
       by_cases c13 : x7_1 > 0
       ·rw [if_pos c13] at H
        have c13b0 : decide (0 < x7_1) = true := decide_eq_true c13
        clear c13
        obtain ⟨ji14, hji14⟩ : ∃ j_ : Int, (mx x6_1 a1_4) = j_ := ⟨_, rfl⟩
        replace H : (if 0 ≤ x7_1 then (if x7_1 < (x5_1.length : Int) then (if a1_1 = 0 then (none) else (spec_Wanted.l0 k1 (x5_1.set (x7_1 : Int).toNat (ji14)) (wrap64 (Int.tdiv x6_1 a1_1)) (wrap64 (x7_1 - 1)) a1_0 a1_1 a1_2 a1_3 a1_4 a1_5 a1_6 a1_7)) else (none)) else (none)) = some r := by first | (rw [hji14] at H; exact H) | (simp only [hji14] at H ⊢; exact H)
        have hji14_ : (if x6_1 < a1_4 then a1_4 else x6_1) = ji14 := hji14
        by_cases c15 : 0 ≤ x7_1
        ·rw [if_pos c15] at H
         have c15b0 : decide (0 ≤ x7_1) = true := decide_eq_true c15
         clear c15
         by_cases c16 : x7_1 < (x5_1.length : Int)
         ·rw [if_pos c16] at H
          have c16b0 : decide (x7_1 < (x5_1.length : Int)) = true := decide_eq_true c16
          clear c16
          obtain ⟨y228, hy228⟩ : ∃ y_ : List Int, y_ = (x5_1.set (x7_1 : Int).toNat (ji14)) := ⟨_, rfl⟩
          replace H : (if a1_1 = 0 then (none) else (spec_Wanted.l0 k1 y228 (wrap64 (Int.tdiv x6_1 a1_1)) (wrap64 (x7_1 - 1)) a1_0 a1_1 a1_2 a1_3 a1_4 a1_5 a1_6 a1_7)) = some r := by first | (rw [hy228]; with_reducible exact H) | (have H2_ := (Option.bind_some _ _).symm.trans H; rw [hy228]; with_reducible exact H2_) | (have H2_ := (Option.bind_some _ _).symm.trans H; with_reducible exact H2_) | with_reducible exact H | (rw [hy228]; exact H) | exact H
          have Ny228 := Aside0.mk hy228
          clear hy228
          by_cases c18 : a1_1 = 0
          ·rw [if_pos c18] at H
           exact absurd H (by simp)
          ·rw [if_neg c18] at H
           have c18b0 : (a1_1 == 0) = false := beq_eq_false_iff_ne.mpr c18
           have c18b1 : (a1_1 != 0) = true := bne_iff_ne.mpr c18
           have H' := Aside0.mk H
           clear H
           have hcz19_0 : wr.cell? ⟨gb222, 0, none⟩ = some (.int .i64 a1_0) := (blk_cell BK222.out 0).trans rfl
           have hcz19_1 : wr.cell? ⟨gb222, 1, none⟩ = some (.int .i64 a1_1) := (blk_cell BK222.out 1).trans rfl
           have hcz19_2 : wr.cell? ⟨gb222, 2, none⟩ = some (.int .i64 a1_2) := (blk_cell BK222.out 2).trans rfl
           have hcz19_3 : wr.cell? ⟨gb222, 3, none⟩ = some (.int .i64 a1_3) := (blk_cell BK222.out 3).trans rfl
           have hcz19_4 : wr.cell? ⟨gb222, 4, none⟩ = some (.int .i64 a1_4) := (blk_cell BK222.out 4).trans rfl
           have hcz19_5 : wr.cell? ⟨gb222, 5, none⟩ = some (.int .i64 a1_5) := (blk_cell BK222.out 5).trans rfl
           have hcz19_6 : wr.cell? ⟨gb222, 6, none⟩ = some (.int .i64 a1_6) := (blk_cell BK222.out 6).trans rfl
           have hcz19_7 : wr.cell? ⟨gb222, 7, none⟩ = some (.int .i64 a1_7) := (blk_cell BK222.out 7).trans rfl
           have hfz19_0 := blk_frozen BK222.out 0
           have hfz19_1 := blk_frozen BK222.out 1
           have hfz19_2 := blk_frozen BK222.out 2
           have hfz19_3 := blk_frozen BK222.out 3
           have hfz19_4 := blk_frozen BK222.out 4
           have hfz19_5 := blk_frozen BK222.out 5
           have hfz19_6 := blk_frozen BK222.out 6
           have hfz19_7 := blk_frozen BK222.out 7
           have p17 : 0 ≤ (x7_1 : Int) := of_decide_eq_true (by first | (with_reducible assumption) | assumption)
           have q17 : (x7_1 : Int) < ((x5_1.length : Int) : Int) := of_decide_eq_true (by first | (with_reducible assumption) | assumption)
           obtain ⟨go17, co17, eo17, gb17, gl17, cl17, HG17⟩ := Kd.R_form HO_5.out (by omega)
           (first | cases eo17 | (injection eo17 with ea_ en_ ec_; (first | subst ea_ | (injection ea_ with ea_; subst ea_)); subst ec_; clear en_))
           have GB17 := Aside0.mk gb17
           have GG17 := Aside0.mk HG17
           clear gb17 gl17 HG17
           obtain ⟨hx17_0, hf17_0⟩ := Kd.R_celln 0 HO_5.out (x7_1 : Int) p17 q17
           replace p17 := eq_true p17
           replace q17 := eq_true q17
           have HP20 := Kd.R_putg HO_5.out (x7_1 : Int) ji14
           go_wp2_with (first | ((with_reducible refine gate_store (t := 3) (p := 31) rfl ?_); refine store_event (t := 3) (p := 31) (v := ?vo_w21) (w1 := (wr.setCell ⟨go17, (x7_1 : Int).toNat, none⟩ (.int .i64 ji14))) ?hg ?ho ?hn ?hr ?_; (case ho => rfl); (case hg => rfl); (case hn => rfl); (case hr => first | (go_simp; done) | (go_simp; rfl)); intro w21 hw; have hg : wr.grownBy w21 (some go17) := (by rw [hw]; exact HP20.2); have hp_ : Kd.R (Kd.int .i64) 3 w21 w.heap.size (fun _ => True) (.slice (some ⟨go17, 0, none⟩) x5_1.length co17) y228 := (by rw [hw, Ny228.out]; exact HP20.1); clear HP20; have n0_ := Aside0.mk (hp_); have n1_ := Aside0.mk (blk_grown (g := gb222) (o := .cells #[.int .i64 a1_0, .int .i64 a1_1, .int .i64 a1_2, .int .i64 a1_3, .int .i64 a1_4, .int .i64 a1_5, .int .i64 a1_6, .int .i64 a1_7] 24 (0, 0)) (by (with_reducible repeat (first | refine blk_drewN ?_ _ | refine blk_drew ?_ | refine blk_alloc ?_ _)); exact BK222.out) hg (Kd.R_ne HO_5.out BK222.out (by decide))); have n2_ := Aside0.mk ((by rw [hw]; exact below_set (HB.out) GB17.out : Below w.heap.size w w21)); clear HO_5; clear BK222; clear HB; have HO_5 := n0_; have BK222 := n1_; have HB := n2_; clear n0_ n1_ n2_; clear hg hw hp_; have hcz22_0 : w21.cell? ⟨gb222, 0, none⟩ = some (.int .i64 a1_0) := (blk_cell BK222.out 0).trans rfl; have hcz22_1 : w21.cell? ⟨gb222, 1, none⟩ = some (.int .i64 a1_1) := (blk_cell BK222.out 1).trans rfl; have hcz22_2 : w21.cell? ⟨gb222, 2, none⟩ = some (.int .i64 a1_2) := (blk_cell BK222.out 2).trans rfl; have hcz22_3 : w21.cell? ⟨gb222, 3, none⟩ = some (.int .i64 a1_3) := (blk_cell BK222.out 3).trans rfl; have hcz22_4 : w21.cell? ⟨gb222, 4, none⟩ = some (.int .i64 a1_4) := (blk_cell BK222.out 4).trans rfl; have hcz22_5 : w21.cell? ⟨gb222, 5, none⟩ = some (.int .i64 a1_5) := (blk_cell BK222.out 5).trans rfl; have hcz22_6 : w21.cell? ⟨gb222, 6, none⟩ = some (.int .i64 a1_6) := (blk_cell BK222.out 6).trans rfl; have hcz22_7 : w21.cell? ⟨gb222, 7, none⟩ = some (.int .i64 a1_7) := (blk_cell BK222.out 7).trans rfl; have hfz22_0 := blk_frozen BK222.out 0; have hfz22_1 := blk_frozen BK222.out 1; have hfz22_2 := blk_frozen BK222.out 2; have hfz22_3 := blk_frozen BK222.out 3; have hfz22_4 := blk_frozen BK222.out 4; have hfz22_5 := blk_frozen BK222.out 5; have hfz22_6 := blk_frozen BK222.out 6; have hfz22_7 := blk_frozen BK222.out 7))
           go_roundg k1
           case measure => have := HK1.out; omega
           case rel => exact ⟨(y228), (wrap64 (Int.tdiv x6_1 a1_1)), (wrap64 (x7_1 - 1)), (by first | rfl | (simp; done) | (simp [*]; done)), (by first | rfl | (simp; done) | (simp [*]; done)), H', ⟨by have := HK1.out; omega⟩, ⟨by (with_reducible repeat (first | apply Kd.R_alloc | apply Kd.R_drewN | apply Kd.R_drew)); exact HO_5.out⟩, ⟨by (with_reducible repeat (first | refine blk_drewN ?_ _ | refine blk_drew ?_ | refine blk_alloc ?_ _)); exact BK222.out⟩, ⟨by repeat (first | (with_reducible first | exact HB.out | apply below_alloc | apply pw_below_drewN | apply below_drew1 | refine below_set ?_ GE222.out) | exact HB.out)⟩⟩
         ·rw [if_neg c16] at H
          exact absurd H (by simp)
        ·rw [if_neg c15] at H
         exact absurd H (by simp)
       ·rw [if_neg c13] at H
        have c13b0 : decide (0 < x7_1) = false := decide_eq_false c13
        clear c13
        obtain rfl := Option.some.inj H
        go_wp2
        go_ret
        exact ⟨_, by first | rfl | (simp [errW_none, errW_some] <;> rfl) | (simp only [← hji5]; first | rfl | (simp [errW_none, errW_some] <;> rfl)) | (simp [*, errW_none, errW_some] <;> rfl), by (with_reducible repeat (first | apply Kd.R_alloc | apply Kd.R_drewN | apply Kd.R_drew)); exact HO_5.out, by repeat (first | (with_reducible first | exact HB.out | apply below_alloc | apply pw_below_drewN | apply below_drew1 | refine below_set ?_ GE222.out) | exact HB.out)⟩
    ·rw [if_neg c7] at H
     exact absurd H (by simp)
   ·rw [if_neg c6] at H
    exact absurd H (by simp)
  ·rw [if_neg c4] at H
   exact absurd H (by simp)
 ·rw [if_neg c3] at H
  exact absurd H (by simp)
end Go.Proofs.YtnineoajmgneiaaGreat.L
