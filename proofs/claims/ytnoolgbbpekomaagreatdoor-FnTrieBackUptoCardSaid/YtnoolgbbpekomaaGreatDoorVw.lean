/- That a trie works: the plain facts; a row of numbers is itself. -/
import Derived.Test.YtnoolgbbpekomaaGreatDoorUa
namespace Go.Proofs.YtnoolgbbpekomaaGreatDoor.Pw
open Go.RowKit YtnoolgbbpekomaaGreatDoorW.PrintWords YtnoolgbbpekomaaGreatDoorW.PrintLast YtnoolgbbpekomaaGreatDoorW.PrintMore T Tr Gp Fx Em
set_option linter.unusedVariables false
set_option linter.unusedSimpArgs false
theorem Ev.one {α : Type} {g : Nat → Option α} {r : α} (h : ∀ k, g (k + 1) = some r) : Ev g r := Ev.step h (Ev.now r)
theorem wrap_up {m : Nat} (h : m < 9223372036854775807) : wrap64 ((m : Int) + 1) = ((m + 1 : Nat) : Int) := by unfold wrap64; omega
/-! Lists that are one. -/
theorem ints_go (a : List Int) (hl : a.length ≤ 1000000000000) : ∀ d m : Nat, m + d = a.length → Ev (fun k => laws_sameInts.l0 k a a (a.length : Int) (m : Int)) true
  | 0, m, hm => Ev.one (fun k => by rw [laws_sameInts.l0, if_neg (by omega)])
  | d + 1, m, hm => Ev.step (fun k => by rw [laws_sameInts.l0, if_pos (by omega), if_pos (by omega), if_pos (by omega), if_pos (by omega), if_pos rfl, wrap_up (by omega)]) (ints_go a hl d (m + 1) (by omega))
theorem ints_ev (a : List Int) (hl : a.length ≤ 1000000000000) : Ev (fun k => laws_sameInts.f k a a) true := by
  have := ints_go a hl a.length 0 (by omega)
  exact Ev.congr (fun k => by unfold laws_sameInts.f; rw [if_pos rfl]; rfl) this
/-! That a trie works. -/
theorem work_run : impl_RunTrie.f [(⟨0, ⟨#[97]⟩, ⟨#[]⟩, 3⟩ : S64)] [(⟨#[97, 98]⟩ : ByteArray), (⟨#[98]⟩ : ByteArray)] = some ([true], [[3], []], 2) := by
  have e1 : [(⟨0, ⟨#[97]⟩, ⟨#[]⟩, 3⟩ : S64)].map okT = [true] := by decide
  have e2 : entries [(⟨0, ⟨#[97]⟩, ⟨#[]⟩, 3⟩ : S64)] = [([some 97], 3)] := by decide
  have e3 : nodes [([some 97], 3)] = 2 := by decide
  have e4 : found [([some 97], 3)] [97, 98] = [3] := by decide
  have e5 : found [([some 97], 3)] [98] = [] := by decide
  have e6 : bytesOf ⟨#[97, 98]⟩ = [97, 98] := by decide
  have e7 : bytesOf ⟨#[98]⟩ = [98] := by decide
  unfold impl_RunTrie.f
  rw [if_pos]
  · unfold rowsOf
    have e8 : ([3] : List Int).map Go.RowKit.wrap64 = [3] := by
      show [Go.RowKit.wrap64 3] = [3]
      rw [show Go.RowKit.wrap64 3 = 3 by unfold Go.RowKit.wrap64; omega]
    rw [e1, e2, e3, List.map_cons, List.map_cons, List.map_nil, e6, e7, e4, e5, e8]
    rfl
  · refine ⟨fun x hx => ?_, by decide, by decide, fun s hs => ?_, by decide⟩
    · rw [List.mem_singleton.1 hx]
      exact ⟨by decide, by decide, ⟨by decide, fun b hb => by cases hb⟩, ([], true), rfl, by decide⟩
    · rcases List.mem_cons.1 hs with h | h
      · rw [h]; decide
      · rw [List.mem_singleton.1 h]; decide
theorem work_holes : ∃ r : List Bool, impl_Holes.f (⟨#[49]⟩ : ByteArray) = some (r, true) ∧ (r.length : Int) > 1 ∧ rdOf false r 1 = true := by
  obtain ⟨r, h1, h2⟩ := Dg.parse_holes false false [(1, 1)] (by intro s hs; rw [List.mem_singleton.1 hs]; decide)
  have e : Dg.holesT false false [(1, 1)] = [49] := by
    show Df.spanT false (1, 1) ++ [] = [49]
    rw [List.append_nil]
    unfold Df.spanT
    rw [if_neg (by decide), List.append_nil, De.dec, dif_pos (by decide)]
    rfl
  rw [e] at h1
  have h3 : r.getD 1 false = true := by rw [h2 1]; decide
  refine ⟨r, ?_, ?_, h3⟩
  · unfold impl_Holes.f
    rw [if_pos ⟨by decide, by decide⟩]
    exact h1
  · rcases Nat.lt_or_ge 1 r.length with h | h
    · omega
    · rw [List.getD_eq_getElem?_getD, List.getElem?_eq_none (by omega)] at h3
      cases h3
end Go.Proofs.YtnoolgbbpekomaaGreatDoor.Pw
namespace Go.Proofs.YtnoolgbbpekomaaGreatDoor.T
open Go.RowKit YtnoolgbbpekomaaGreatDoorW.PrintWords YtnoolgbbpekomaaGreatDoorW.PrintLast YtnoolgbbpekomaaGreatDoorW.PrintMore
attribute [local go_sem] max2_int min2_int max_two min_two max_three min_three max_four min_four   -- for this text's walks alone
set_option linter.unusedVariables false
set_option linter.unusedSimpArgs false
/-! ### laws_triesWork: function 16: the way on which it answers true, as the print has it -/
set_option maxHeartbeats 8000000 in
set_option maxRecDepth 100000 in
theorem work_walk (k : Nat) (w : World) {y154 : List S64} {y157 : List ByteArray} {y173 : List Int} {t160 t167 : List Bool} {t161 : List (List Int)} {t162 : Int} (hl : Pi.Laid w) (hy154 : y154 = ([(⟨0, (⟨#[97]⟩ : ByteArray), (⟨#[]⟩ : ByteArray), 3⟩ : S64)] : List (S64))) (hy157 : y157 = ([(⟨#[97, 98]⟩ : ByteArray), (⟨#[98]⟩ : ByteArray)] : List ByteArray)) (hy173 : y173 = [3])
    (A10 : impl_RunTrie.f y154 y157 = some (t160, t161, t162)) (A20 : impl_Holes.f (⟨#[49]⟩ : ByteArray) = some (t167, true)) (A90 : laws_sameInts.f k (rd_L8 t161 0) y173 = some true) (hbq5 : true = rdOf false t160 0)
    (c3 : (t160.length : Int) = 1) (c4 : 0 < (t160.length : Int)) (c7 : (t161.length : Int) = 2) (c8 : 0 < (t161.length : Int)) (c11 : 1 < (t161.length : Int)) (c12 : ((rd_L8 t161 1).length : Int) = 0) (c13 : t162 > 0) (c15 : (t167.length : Int) > 1) (c16 : 1 < (t167.length : Int)) :
    Calls Tryz.prog 16 #[] w fun e w' => e = .returned (.bool (rdOf false t167 1)) ∧ Below w.heap.size w w' := by
  have hu64 := Tryz.underlying64
  have HLA := Aside0.mk hl
  clear hl
  have HB := Aside0.mk (Below.refl w.heap.size w)
  have Ny154 := Aside0.mk hy154
  have Ny157 := Aside0.mk hy157
  have Ny173 := Aside0.mk hy173
  have A1 := Aside0.mk A10
  have A2 := Aside0.mk A20
  have A9 := Aside0.mk A90
  have Nbq5 := Aside0.mk hbq5
  clear hy154 hy157 hy173 A10 A20 A90 hbq5
  have c3b0 : ((t160.length : Int) == 1) = true := beq_iff_eq.mpr c3
  have c3b1 : ((t160.length : Int) != 1) = false := bne_eq_false_iff_eq.mpr c3
  have c4b0 : decide (0 < (t160.length : Int)) = true := decide_eq_true c4
  have c4b1 : decide (0 < t160.length) = true := decide_eq_true (by omega)
  have c7b0 : ((t161.length : Int) == 2) = true := beq_iff_eq.mpr c7
  have c7b1 : ((t161.length : Int) != 2) = false := bne_eq_false_iff_eq.mpr c7
  have c8b0 : decide (0 < (t161.length : Int)) = true := decide_eq_true c8
  have c8b1 : decide (0 < t161.length) = true := decide_eq_true (by omega)
  have c11b0 : decide (1 < (t161.length : Int)) = true := decide_eq_true c11
  have c11b1 : decide (1 < t161.length) = true := decide_eq_true (by omega)
  have c12b0 : (((rd_L8 t161 1).length : Int) == 0) = true := beq_iff_eq.mpr c12
  have c12b1 : (((rd_L8 t161 1).length : Int) != 0) = false := bne_eq_false_iff_eq.mpr c12
  have c13b0 : decide (0 < t162) = true := decide_eq_true c13
  have c15b0 : decide (1 < (t167.length : Int)) = true := decide_eq_true c15
  have c15b1 : decide (1 < t167.length) = true := decide_eq_true (by omega)
  have c16b0 : decide (1 < (t167.length : Int)) = true := decide_eq_true c16
  have c16b1 : decide (1 < t167.length) = true := decide_eq_true (by omega)
  clear c3 c4 c7 c8 c11 c12 c13 c15 c16
  go_enter Tryz.func16, Tryz.ntmps16
  go_wp2_with (first | ((with_reducible refine gate_dst (N := 8) rfl ?_); (try (refine gate_guard (by rfl) ?_; dsimp only)); refine Kd.R_lit k64 _ 64 ?hg (N := 8) ?hd (xs := ([(⟨0, (⟨#[97]⟩ : ByteArray), (⟨#[]⟩ : ByteArray), 3⟩ : S64)] : List (S64))) (inner := [.int .i64 0, .string (⟨#[97]⟩ : ByteArray), .string (⟨#[]⟩ : ByteArray), .int .i64 3]) (ok := fun _ => True) (okp := fun _ => True) ?hr ?hp (fun _ hk => hk) trivial (Below.refl _ _) (Nat.le_refl _) (by simp) ?_; (case hd => rfl); (case hg => rfl); (case hr => first | (go_simp; done) | (go_simp; rfl)); (case hp => exact (Reps.c4 (show Kd.M k64 _ _ _ (⟨0, (⟨#[97]⟩ : ByteArray), (⟨#[]⟩ : ByteArray), 3⟩ : S64) [.int .i64 0, .string (⟨#[97]⟩ : ByteArray), .string (⟨#[]⟩ : ByteArray), .int .i64 3] from (k64_mkM _ _ _ (⟨0, (⟨#[97]⟩ : ByteArray), (⟨#[]⟩ : ByteArray), 3⟩ : S64) )) (Reps.none _ _))); intro v155 w17 ho18 hb hg_ hnew_; clear hg_ hnew_; (first | rw [← Ny154.out] at ho18 | (simp only [Int.reduceToNat] at ho18; rw [← Ny154.out] at ho18)); have n0_ := Aside0.mk (Kd.R_lower ho18 (below_size (Xb HB.out))); have n1_ := Aside0.mk (below_step (Xb HB.out) hb); clear HB; have HO156 := n0_; have HB := n1_; clear n0_ n1_; clear hb ho18) | ((with_reducible refine gate_dst (N := 9) rfl ?_); (try (refine gate_guard (by rfl) ?_; dsimp only)); refine Kd.R_lit Kd.string _ 9 ?hg (N := 9) ?hd (xs := ([(⟨#[97, 98]⟩ : ByteArray), (⟨#[98]⟩ : ByteArray)] : List ByteArray)) (inner := [.string (⟨#[97, 98]⟩ : ByteArray), .string (⟨#[98]⟩ : ByteArray)]) (ok := fun _ => True) (okp := fun _ => True) ?hr ?hp (fun _ hk => hk) trivial (Below.refl _ _) (Nat.le_refl _) (by simp) ?_; (case hd => rfl); (case hg => rfl); (case hr => first | (go_simp; done) | (go_simp; rfl)); (case hp => exact (Reps.one (show Kd.M Kd.string _ _ _ (⟨#[97, 98]⟩ : ByteArray) [.string (⟨#[97, 98]⟩ : ByteArray)] from rfl) (Reps.one (show Kd.M Kd.string _ _ _ (⟨#[98]⟩ : ByteArray) [.string (⟨#[98]⟩ : ByteArray)] from rfl) (Reps.none _ _)))); intro v158 w19 ho20 hb hg_ hnew_; clear hg_ hnew_; (first | rw [← Ny157.out] at ho20 | (simp only [Int.reduceToNat] at ho20; rw [← Ny157.out] at ho20)); have n0_ := Aside0.mk (Kd.R_below (XR HO156.out) hb); have n1_ := Aside0.mk (Kd.R_lower ho20 (below_size (Xb HB.out))); have n2_ := Aside0.mk (below_step (Xb HB.out) hb); clear HO156; clear HB; have HO156 := n0_; have HO159 := n1_; have HB := n2_; clear n0_ n1_ n2_; clear hb ho20; obtain ⟨Ao21, co21, eo21⟩ := Kd.R_slice HO156.out; subst eo21; obtain ⟨Ao22, co22, eo22⟩ := Kd.R_slice HO159.out; subst eo22) | ((with_reducible refine gate_callee (f := 32) rfl ?_); refine goesL_ (some 10) rfl rfl Tryz.func32 (by kernel_rfl) rfl #[.slice Ao21 y154.length co21, .slice Ao22 y157.length co22] rfl (by (try simp only [List.map_toArray, List.map_cons, List.map_nil]); first | done | rfl | (simp only [List.length_drop, List.length_take]; rfl)) ?_; (with_reducible refine (impl_RunTrie.calls _ _ y154 _ _ y157 t160 t161 t162 _ ?side1 ?side2 ?side3 ?side4 ?sidel A1.out).mono ?_); (case sidel => exact Pi.Laid.below HLA.out (Xb HB.out)); (case side1 => exact XC (Kd.R_reads' HO156.out).2.2); (case side2 => exact (Kd.R_reads' HO156.out).2.1); (case side3 => exact XC (Kd.R_reads' HO159.out).2.2); (case side4 => exact (Kd.R_reads' HO159.out).2.1); rintro e w23 ⟨v163, v165, rfl, ho0, ho1, hb⟩; refine ⟨_, rfl, ?_⟩; have n0_ := Aside0.mk (Kd.R_below (XR HO156.out) hb); have n1_ := Aside0.mk (Kd.R_below (XR HO159.out) hb); have n2_ := Aside0.mk (Kd.R_lower ho0 (below_size (Xb HB.out))); have n3_ := Aside0.mk (Kd.S_lower ho1 (below_size (Xb HB.out))); have n4_ := Aside0.mk (below_step (Xb HB.out) hb); clear HO156; clear HO159; clear HB; have HO156 := n0_; have HO159 := n1_; have HO164 := n2_; have HO166 := n3_; have HB := n4_; clear n0_ n1_ n2_ n3_ n4_; (try clear hb); (try clear hb2); (try clear hk); (try clear hi); (try clear ho0); (try clear ho1)) | ((with_reducible refine gate_callee (f := 17) rfl ?_); refine goesL_ (some 15) rfl rfl Tryz.func17 (by kernel_rfl) rfl #[.string (⟨#[49]⟩ : ByteArray)] rfl (by (try simp only [List.map_toArray, List.map_cons, List.map_nil]); first | done | rfl | (simp only [List.length_drop, List.length_take]; rfl)) ?_; (with_reducible refine (impl_Holes.calls (⟨#[49]⟩ : ByteArray) t167 true _ ?sidel A2.out).mono ?_); (case sidel => exact Pi.Laid.below HLA.out (Xb HB.out)); rintro e w24 ⟨v169, rfl, ho0, hb⟩; refine ⟨_, rfl, ?_⟩; have n0_ := Aside0.mk (Kd.R_below (XR HO156.out) hb); have n1_ := Aside0.mk (Kd.R_below (XR HO159.out) hb); have n2_ := Aside0.mk (Kd.R_elder' (XR HO164.out) (Kd.R_base ho0) hb); have n3_ := Aside0.mk (Kd.S_below (XS HO166.out) hb); have n4_ := Aside0.mk (Kd.R_lower (Kd.R_new' ho0 (Kd.R_lt (XR HO164.out))) (below_size (Xb HB.out))); have n5_ := Aside0.mk (below_step (Xb HB.out) hb); clear HO156; clear HO159; clear HO164; clear HO166; clear HB; have HO156 := n0_; have HO159 := n1_; have HO164 := n2_; have HO166 := n3_; have HO170 := n4_; have HB := n5_; clear n0_ n1_ n2_ n3_ n4_ n5_; (try clear hb); (try clear hb2); (try clear hk); (try clear hi); (try clear ho0); obtain ⟨Ao25, co25, eo25⟩ := Kd.R_slice HO164.out; subst eo25; have p171 : 0 ≤ (0 : Int) := (by omega); have q171 : 0 < (t160.length : Int) := of_decide_eq_true (by first | (with_reducible assumption) | assumption); obtain ⟨ad171, e171, hx171_0⟩ := Kd.at_bool (Kd.R_reads' HO164.out).2.2 0 p171 q171; (try rw [← Nbq5.out] at hx171_0); cases e171; have qi171 : (0 < t160.length) = True := eq_true (by omega); (try rw [show ((0 : Int)).toNat = 0 from rfl] at hx171_0); (try rw [Addr.add_zero'] at hx171_0); replace p171 := eq_true p171; replace q171 := eq_true q171; obtain ⟨Ao26, co26, eo26⟩ := Kd.S_slice HO166.out; subst eo26; have p172 : 0 ≤ (0 : Int) := (by omega); have q172 : 0 < (t161.length : Int) := of_decide_eq_true (by first | (with_reducible assumption) | assumption); obtain ⟨ad172, A172_0, c172_0, e172, hx172_0, hl172_0, hi172_0⟩ := at_L8 (Kd.S_reads' HO166.out).2.2 0 p172 q172; cases e172; obtain ⟨ce172, hce172, hMe172, hcc172⟩ := Kd.S_get HO166.out [] 0 p172 (by first | exact q172 | exact of_decide_eq_true (by first | (with_reducible assumption) | assumption) | (have e_ := (Kd.S_reads' HO166.out).1; omega)); obtain ⟨ve172_0, rfl, ge172_0⟩ := hMe172; have hv172_0 := hcc172 0 _ rfl; rw [Nat.add_zero, show ((Kd.slice 3 (Kd.int .i64))).sz = 1 from rfl, Nat.mul_one] at hv172_0; replace hv172_0 := Option.some.inj (hv172_0.symm.trans hx172_0); rw [hv172_0] at ge172_0; have HL172_0 := Aside0.mk (show Kd.R (Kd.int .i64) 3 _ _ _ _ (rd_L8 t161 0) from ge172_0); clear hv172_0 ge172_0; clear hcc172 hce172; have qi172 : (0 < t161.length) = True := eq_true (by omega); (try rw [show ((0 : Int)).toNat = 0 from rfl] at hx172_0); (try rw [Addr.add_zero'] at hx172_0); have HR172_0 := Aside0.mk hi172_0; have HC172_0 := Aside0.mk hl172_0; clear hi172_0 hl172_0; replace p172 := eq_true p172; replace q172 := eq_true q172) | ((with_reducible refine gate_dst (N := 35) rfl ?_); (try (refine gate_guard (by rfl) ?_; dsimp only)); refine Kd.R_lit (Kd.int .i64) _ 3 ?hg (N := 35) ?hd (xs := ([3] : List Int)) (inner := [.int .i64 3]) (ok := fun _ => True) (okp := fun _ => True) ?hr ?hp (fun _ hk => hk) trivial (Below.refl _ _) (Nat.le_refl _) (by simp) ?_; (case hd => rfl); (case hg => rfl); (case hr => first | (go_simp; done) | (go_simp; rfl)); (case hp => exact (Reps.one (show Kd.M (Kd.int .i64) _ _ _ 3 [.int .i64 3] from rfl) (Reps.none _ _))); intro v174 w27 ho28 hb hg_ hnew_; clear hg_ hnew_; (first | rw [← Ny173.out] at ho28 | (simp only [Int.reduceToNat] at ho28; rw [← Ny173.out] at ho28)); have n0_ := Aside0.mk (Kd.R_below (XR HO156.out) hb); have n1_ := Aside0.mk (Kd.R_below (XR HO159.out) hb); have n2_ := Aside0.mk (Kd.R_below (XR HO164.out) hb); have n3_ := Aside0.mk (Kd.S_elder' (XS HO166.out) (Kd.R_base ho28) hb); have n4_ := Aside0.mk (Kd.R_below (XR HO170.out) hb); have n5_ := Aside0.mk (Kd.R_elder' (XR HL172_0.out) (Kd.R_base ho28) hb); have n6_ := Aside0.mk (Kd.R_lower (Kd.R_new' ho28 (Kd.R_lt (XR HL172_0.out))) (below_size (Xb HB.out))); have n7_ := Aside0.mk (Kd.C_below (by repeat (first | (with_reducible exact HR172_0.out) | (with_reducible refine Kd.C_alloc ?_ _) | (with_reducible refine Kd.C_drewN ?_ _) | (with_reducible refine Kd.C_drew ?_) | exact HR172_0.out)) hb); have n8_ := Aside0.mk (below_step (Xb HB.out) hb); clear HO156; clear HO159; clear HO164; clear HO166; clear HO170; clear HL172_0; clear HR172_0; clear HB; have HO156 := n0_; have HO159 := n1_; have HO164 := n2_; have HO166 := n3_; have HO170 := n4_; have HL172_0 := n5_; have HO175 := n6_; have HR172_0 := n7_; have HB := n8_; clear n0_ n1_ n2_ n3_ n4_ n5_ n6_ n7_ n8_; clear hb ho28; obtain ⟨Ao29, co29, eo29⟩ := Kd.R_slice HO175.out; subst eo29) | (go_at_call 35; (with_reducible refine (laws_sameInts.calls k _ _ (rd_L8 t161 0) _ _ y173 true _ ?side1 ?side2 ?side3 ?side4 A9.out).mono ?_); (case side1 => repeat (first | exact (by repeat (first | (with_reducible exact HR172_0.out) | (with_reducible refine Kd.C_alloc ?_ _) | (with_reducible refine Kd.C_drewN ?_ _) | (with_reducible refine Kd.C_drew ?_) | exact HR172_0.out)) | (with_reducible refine Kd.C_alloc ?_ _) | (with_reducible refine Kd.C_drewN ?_ _) | (with_reducible refine Kd.C_drew ?_))); (case side2 => exact HC172_0.out); (case side3 => exact XC (Kd.R_reads' HO175.out).2.2); (case side4 => exact (Kd.R_reads' HO175.out).2.1); rintro e w' ⟨rfl, ⟨nd, rfl⟩⟩; have p177 : 0 ≤ (1 : Int) := (by omega); have q177 : 1 < (t161.length : Int) := of_decide_eq_true (by first | (with_reducible assumption) | assumption); obtain ⟨ad177, A177_0, c177_0, e177, hx177_0, hl177_0, hi177_0⟩ := at_L8 (Kd.S_reads' HO166.out).2.2 1 p177 q177; obtain rfl : ad172 = ad177 := (by injection e177); obtain ⟨ce177, hce177, hMe177, hcc177⟩ := Kd.S_get HO166.out [] 1 p177 (by first | exact q177 | exact of_decide_eq_true (by first | (with_reducible assumption) | assumption) | (have e_ := (Kd.S_reads' HO166.out).1; omega)); obtain ⟨ve177_0, rfl, ge177_0⟩ := hMe177; have hv177_0 := hcc177 0 _ rfl; rw [Nat.add_zero, show ((Kd.slice 3 (Kd.int .i64))).sz = 1 from rfl, Nat.mul_one] at hv177_0; replace hv177_0 := Option.some.inj (hv177_0.symm.trans hx177_0); rw [hv177_0] at ge177_0; have HL177_0 := Aside0.mk (show Kd.R (Kd.int .i64) 3 _ _ _ _ (rd_L8 t161 1) from ge177_0); clear hv177_0 ge177_0; clear hcc177 hce177; (try simp only [show (1 : Int).toNat = 1 from rfl, Nat.reduceMul, Nat.reduceEqDiff, Go.Addr.add, ↓reduceIte] at hx177_0); have qi177 : (1 < t161.length) = True := eq_true (by omega); (try rw [show ((1 : Int)).toNat = 1 from rfl] at hx177_0); have HR177_0 := Aside0.mk hi177_0; have HC177_0 := Aside0.mk hl177_0; clear hi177_0 hl177_0; replace p177 := eq_true p177; replace q177 := eq_true q177; obtain ⟨Ao30, co30, eo30⟩ := Kd.R_slice HO170.out; subst eo30; have p178 : 0 ≤ (1 : Int) := (by omega); have q178 : 1 < (t167.length : Int) := of_decide_eq_true (by first | (with_reducible assumption) | assumption); obtain ⟨ad178, e178, hx178_0⟩ := Kd.at_bool (Kd.R_reads' HO170.out).2.2 1 p178 q178; (try rw [← Nbq5.out] at hx178_0); cases e178; (try simp only [show (1 : Int).toNat = 1 from rfl, Nat.reduceMul, Nat.reduceEqDiff, Go.Addr.add, ↓reduceIte] at hx178_0); have qi178 : (1 < t167.length) = True := eq_true (by omega); (try rw [show ((1 : Int)).toNat = 1 from rfl] at hx178_0); replace p178 := eq_true p178; replace q178 := eq_true q178))
  go_ret
  exact ⟨by first | rfl | (simp [errW_none, errW_some] <;> rfl) | (simp [*, errW_none, errW_some] <;> rfl), by repeat (first | (with_reducible first | exact HB.out | apply below_alloc | apply pw_below_drewN | apply below_drew1) | exact HB.out)⟩
def laws_triesWork.f (k : Nat) : Option Bool := some true
theorem laws_triesWork.mono : ∀ k, LeO (laws_triesWork.f k) (laws_triesWork.f (k + 1)) := fun _ => LeO.refl _
theorem laws_triesWork.calls (k : Nat) (r : Bool) (w : World) (hl : Pi.Laid w) (h : laws_triesWork.f k = some r) :
    Calls Tryz.prog 16 #[] w fun e w' => e = .returned (.bool r) ∧ Below w.heap.size w w' := by
  obtain ⟨q, h1, h2, h3⟩ := Pw.work_holes
  obtain ⟨n, hn⟩ := Ev.rounds (Pw.ints_ev [3] (by decide))
  have := work_walk n w hl rfl rfl rfl Pw.work_run h1 hn rfl rfl (by decide) rfl (by decide) (by decide) rfl (by decide) h2 h2
  injection h with h
  rw [h3] at this
  rw [← h]
  exact this
end Go.Proofs.YtnoolgbbpekomaaGreatDoor.T
