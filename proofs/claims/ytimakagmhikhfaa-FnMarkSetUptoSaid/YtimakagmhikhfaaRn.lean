/- impl.RunMarks walked: it answers what the definition tells. -/
import Derived.Test.YtimakagmhikhfaaRm
import Derived.Test.YtimakagmhikhfaaRi
namespace Go.Proofs.Ytimakagmhikhfaa.Rn
open Go.RowKit Go.Proofs.YtimakagmhikhfaaW.PrintWords Go.Proofs.YtimakagmhikhfaaW.PrintLast Go.Proofs.YtimakagmhikhfaaW.PrintMore Go.Proofs.Ytimakagmhikhfaa.M Go.Proofs.Ytimakagmhikhfaa.Mk Go.Proofs.Ytimakagmhikhfaa.Fr Go.Proofs.Ytimakagmhikhfaa.Hp Go.Proofs.Ytimakagmhikhfaa.Wt Go.Proofs.Ytimakagmhikhfaa.Px Go.Proofs.Ytimakagmhikhfaa.Pr Go.Proofs.Ytimakagmhikhfaa.Ms Go.Proofs.Ytimakagmhikhfaa.Mt Go.Proofs.Ytimakagmhikhfaa.Sm Go.Proofs.Ytimakagmhikhfaa.Ri Go.Proofs.Ytimakagmhikhfaa.Rm
set_option linter.unusedVariables false
set_option linter.unusedSimpArgs false
theorem i64_id {x : Int} (h0 : 0 ≤ x) (h1 : x ≤ 1099511627776) : IntKind.i64.wrap x = x := by
  simp [IntKind.wrap, IntKind.bits, IntKind.signed]
  omega
theorem late_eq (σ : Wat) : ∀ ws : Wl, late σ ws = ((ws.map Prod.fst).filter fun x => decide (σ.till < x)).length
  | [] => rfl
  | p :: t => by
    have ih := late_eq σ t
    simp only [late] at ih ⊢
    rw [List.map_cons, List.filter_cons, List.filter_cons]
    by_cases h : p.1 ≤ σ.till
    · rw [if_neg (by simp [h]), if_neg (by simp; omega)]; exact ih
    · rw [if_pos (by simp; omega), if_pos (by simp; omega), List.length_cons, List.length_cons, ih]
def RPost (w : World) (r : List S34) (e : Ending) (w' : World) : Prop :=
  ∃ v0_ : Value, e = .returned v0_ ∧ Kd.S k34 34 w' w.heap.size (fun _ => True) v0_ r ∧ Below w.heap.size w w'
set_option maxHeartbeats 4000000 in
set_option maxRecDepth 100000 in
theorem runMarks_calls (A0 : Option Addr) (c0 : Nat) (l0 : List S31) (r : List S34) (w : World) (hr0 : Kd.C k31 w A0 l0.length l0) (hc0 : l0.length ≤ c0) (ht : tot l0 ≤ 1000000000000) (hrun : run true l0 w0 [] = some r) :
    Calls Try.prog 14 #[.slice A0 l0.length c0] w (RPost w r) := by
  have hm := Kd.C_max hr0
  have HC := Lib.hid hr0
  have HRUN := Lib.hid hrun
  clear hr0 hrun
  have hu22 := Try.underlying22
  go_enter Try.func14, Try.ntmps14
  go_wp2_with fail
  refine (new_calls w).mono ?_
  rintro e w0_ ⟨wb, T0, rfl, hst0, htb0, hk0⟩
  have HST0 := Lib.hid hst0
  have HTB0 := Lib.hid htb0
  have hb0 : Below w.heap.size w w0_ := hk0.toBelow (fun _ h => h.elim)
  clear hst0 htb0 hk0
  simp only [ptr]
  go_wp2_with (first | ((with_reducible refine gate_dst (N := 12) rfl ?_); refine Kd.R_lit ptrK (w0 := w) w.heap.size 57 ?hg (N := 12) ?hd (xs := []) (inner := []) (ok := fun k => w0_.heap.size ≤ k) (okp := fun _ => False) ?hr ?hp (fun _ hk => hk.elim) (Nat.le_refl _) hb0 hb0.size (by simp) ?_; (case hd => rfl); (case hg => rfl); (case hr => first | (go_simp; done) | (go_simp; rfl)); (case hp => exact (Reps.none _ _)); intro v1 w1 hr1 hb1 hg1 hn1) | ((with_reducible refine gate_dst (N := 13) rfl ?_); refine Kd.S_lit k34 (w0 := w) w.heap.size 34 ?hg (N := 13) ?hd (xs := []) (inner := []) (ok := fun k => w1.heap.size ≤ k) (okp := fun _ => False) ?hr ?hp (fun _ hk => hk.elim) (Nat.le_refl _) hb1 hb1.size (by simp) ?_; (case hd => rfl); (case hg => rfl); (case hr => first | (go_simp; done) | (go_simp; rfl)); (case hp => exact (Reps.none _ _)); intro v2 w2 hs2 hb2 hg2 hn2))
  have hI0 : IM w w2 T0 wb w0 [] [] [] v1 v2 := by
    have k1 := Kp.of_grown hg1
    have k2 := Kp.of_grown hg2
    have st1 := St.kpT HST0.out k1 (fun _ _ h => by cases h)
    refine ⟨St.kpT st1 k2 (fun _ _ h => by cases h), HTB0.out, ?_, Kd.S_mono hs2 (fun k hk h => ?_), hb2⟩
    · exact Kd.R_mono (Kd.R_kept hr1 k2.kept (fun _ _ h => by cases h)) (fun k hk h => by have := St.bound HST0.out k h; omega)
    · have := St.bound st1 k h
      omega
  have HI0 := Lib.hid hI0
  clear hr1 hb1 hg1 hn1 hs2 hb2 hg2 hn2 hI0 hb0 HST0 HTB0
  go_loopg [4, 5, 16] l0.length (fun kq v4 v5 v16 wr => ∃ (j : Nat) (T : Nat → Prop) (σ : Wat) (ws : Wl) (out : List S34) (N : Int), v16 = .int .i64 j ∧ kq = l0.length - j ∧ Head l0 j σ (ws.map Prod.fst) out N ∧ N + tot (l0.drop j) ≤ 1000000000000 ∧ IM w wr T wb σ ws (ws.map Prod.snd) out v4 v5)
  case atStart => exact ⟨0, T0, w0, [], [], 0, rfl, rfl, ⟨Nat.zero_le _, inv0, by rw [List.drop_zero]; omega, by simp [prevSet], by simp, by simp⟩, by rw [List.drop_zero]; omega, HI0.out⟩
  case round =>
    obtain ⟨j, T, σ, ws, out, N, rfl, hkq, hH, hb3, hM⟩ := hrel
    have HB3 := Lib.hid hb3
    clear hb3
    have HH := Lib.hid hH
    have HM := Lib.hid hM
    have HKQ := Lib.hid hkq
    clear hH hM hkq HI0
    by_cases j1 : j < l0.length
    · obtain ⟨ad, A2, c2, e1, x0, x1, x2, l2, g2⟩ := at_T31 HC.out j (by omega) (by omega)
      obtain ⟨a, ha⟩ : ∃ a, rd_T31 l0 (j : Int) = a := ⟨_, rfl⟩
      rw [ha] at x0 x1 x2 l2 g2
      subst e1
      simp only [Int.toNat_natCast] at x0 x1 x2
      replace x0 := (HM.out.bl.cell (World.block_lt_of_cell? w _ x0)).trans x0
      replace x1 := (HM.out.bl.cell (World.block_lt_of_cell? w _ x1)).trans x1
      replace x2 := (HM.out.bl.cell (World.block_lt_of_cell? w _ x2)).trans x2
      have hdr : l0.drop j = a :: l0.drop (j + 1) := by rw [← ha, List.drop_eq_getElem_cons j1]; simp [rd_T31, j1]
      have HA := Lib.hid ha
      have HG := Lib.hid g2
      have HDR := Lib.hid hdr
      obtain ⟨p, hp⟩ : ∃ p, prevSet l0 j = p := ⟨_, rfl⟩
      have HP := Lib.hid hp
      have hokk : (actOk p a σ (ws.map Prod.fst)).1 = true := by
        cases h : (actOk p a σ (ws.map Prod.fst)).1 with
        | true => rfl
        | false =>
          have h2 := HH.out.res
          rw [HRUN.out, hp, hdr] at h2
          simp [run, h] at h2
      obtain ⟨σ2, hσ2⟩ : ∃ b, (actOk p a σ (ws.map Prod.fst)).2.1 = b := ⟨_, rfl⟩
      obtain ⟨wts2, hwts2⟩ : ∃ b, (actOk p a σ (ws.map Prod.fst)).2.2 = b := ⟨_, rfl⟩
      have hinv := HH.out.inv
      rw [hp] at hinv
      have HI := Lib.hid hinv
      have HO1 := Lib.hid hokk
      have HO2 := Lib.hid hσ2
      have HO3 := Lib.hid hwts2
      have HF := Lib.hid hinv.fine
      have hN0 := hinv.pos
      have hbd := HB3.out
      rw [hdr] at hbd
      simp only [tot, List.map_cons, List.sum_cons, weight] at hbd
      have hfl : a.f2.length ≤ 1099511627776 := by omega
      clear ha g2 hp hokk hσ2 hwts2 hinv hdr
      go_upto_block 2 with (fail)
      have hM1 := HM.out.keep ((Kp.refl wr (fun _ => False)).alloc (Obj.cells #[Value.int IntKind.i64 a.f0, Value.int IntKind.i64 a.f1, Value.slice A2 a.f2.length c2] 31))
      have bk := blk_new wr (Obj.cells #[Value.int IntKind.i64 a.f0, Value.int IntKind.i64 a.f1, Value.slice A2 a.f2.length c2] 31)
      generalize hwA : wr.alloc (Obj.cells #[Value.int IntKind.i64 a.f0, Value.int IntKind.i64 a.f1, Value.slice A2 a.f2.length c2] 31) = wA at bk hM1 ⊢
      generalize hgb : wr.heap.size = gb at bk ⊢
      have b0 : wA.cell? ⟨gb, 0, none⟩ = some (.int .i64 a.f0) := blk_cell bk 0
      have b1 : wA.cell? ⟨gb, 1, none⟩ = some (.int .i64 a.f1) := blk_cell bk 1
      have b2 : wA.cell? ⟨gb, 2, none⟩ = some (.slice A2 a.f2.length c2) := blk_cell bk 2
      clear hwA hgb bk x0 x1 x2
      have HM1 := Lib.hid hM1
      have HGA := Lib.hid (Kd.C_below (w := w) (w1 := wA) HG.out (hM1.bl))
      clear hM1
      go_cut [4] (fun v4' wx => ∃ (T2 : Nat → Prop) (ws2 : Wl), ws2.map Prod.fst = wts2 ∧ IM w wx T2 wb σ2 ws2 (ws2.map Prod.snd) out v4' u5)
      case first =>
        by_cases k0 : a.f0 = 0
        · skip
          have d0 : (a.f0 == 0) = true := by rw [beq_iff_eq]; omega
          have e : actOk p a σ (ws.map Prod.fst) = ((σ.begin_ a.f1).1, (σ.begin_ a.f1).2, ws.map Prod.fst) := by unfold actOk; rw [if_pos (by omega)]
          have HE := Lib.hid e
          have hok := HO1.out
          rw [e] at hok
          clear e k0
          obtain ⟨i1, i2, i3⟩ := begin_ok hok
          have hlo := HF.out.lo
          have i4 : a.f1 ≤ 1099511627776 := i2
          have hwr : IntKind.u64.wrap a.f1 = a.f1 := u64_id (by omega) i4
          have HC2 := Lib.hid (Ms.begin_calls HM1.out.st a.f1 N HF.out hN0 (by omega) i1 i2)
          have HI3 := Lib.hid i3
          clear i3 hok
          simp only [ptr] at HC2
          go_wp2_with fail
          refine HC2.out.mono ?_
          rintro e w1 ⟨rfl, hL⟩
          obtain ⟨T2, hI2⟩ := IM.step HM1.out hL (fun p hp => HM1.out.tb _ ((St.flags HM1.out.st) p hp).2)
          clear hL
          have HL2 := Lib.hid hI2
          clear hI2
          go_wp2_with fail
          go_meet
          case rel =>
            refine ⟨T2, ws, by rw [← HO3.out, HE.out], ?_⟩
            rw [← HO2.out, HE.out]
            rw [HI3.out]
            exact HL2.out
        · skip
          by_cases k1 : a.f0 = 1
          · skip
            have d0 : (a.f0 == 0) = false := by rw [beq_eq_false_iff_ne]; omega
            have d1 : (a.f0 == 1) = true := by rw [beq_iff_eq]; omega
            have e : actOk p a σ (ws.map Prod.fst) = ((manyB a.f2 (decide (0 < (a.f2.length : Int))) σ).1, (manyB a.f2 (decide (0 < (a.f2.length : Int))) σ).2, ws.map Prod.fst) := by unfold actOk; rw [if_neg (by omega), if_pos (by omega)]
            have HE := Lib.hid e
            have hok := HO1.out
            rw [e] at hok
            clear e k0 k1
            have hl0 : 0 < a.f2.length := by
              refine Nat.pos_of_ne_zero (fun h => ?_)
              have e : decide (0 < (a.f2.length : Int)) = false := decide_eq_false (by omega)
              simp only [e, manyB_false] at hok
              cases hok
            have hdl : decide (0 < (a.f2.length : Int)) = true := decide_eq_true (by omega)
            simp only [hdl] at hok
            rw [hdl] at HE
            obtain ⟨o1, o2, o3⟩ := manyB_ok HF.out hN0 hok (List.length_pos_iff.1 hl0)
            have HO12 := Lib.hid o2
            have HO11 := Lib.hid o1
            have HNU := Lib.hid (impl_numbers.calls (a.f2.length + 1) A2 c2 a.f2 a.f2 wA HGA.out l2 (nums_f a.f2 (by omega) o3))
            clear o1 o2 o3 hok hdl
            go_wp2_with fail
            refine HNU.out.mono ?_
            rintro e w1 ⟨v7, rfl, hr7, hb7⟩
            have hM7 := HM1.out.keep (Kp.of_below hb7 _)
            have hbd7 := St.bound HM1.out.st
            have hr8 : (Kd.int .u64).R 53 w1 0 (fun k => ¬ T k) v7 a.f2 := Kd.R_mono (Kd.R_lower (Kd.R_bound hr7) (Nat.zero_le _)) (fun k hk h => by have := hbd7 k h; have := hk.2.1; omega)
            have HC2 := Lib.hid (Ms.beginMany_calls hM7.st a.f2 v7 (N + a.f2.length) hl0 hr8 HO11.out (by omega))
            have HM7 := Lib.hid hM7
            clear hM7 hr7 hr8 hb7 hbd7
            simp only [ptr] at HC2
            go_wp2_with fail
            refine HC2.out.mono ?_
            rintro e w2 ⟨rfl, hL⟩
            obtain ⟨T2, hI2⟩ := IM.step HM7.out hL (fun p hp => HM7.out.tb _ ((St.flags HM7.out.st) p hp).2)
            clear hL
            have HL2 := Lib.hid hI2
            clear hI2
            go_wp2_with fail
            go_meet
            case rel =>
              refine ⟨T2, ws, by rw [← HO3.out, HE.out], ?_⟩
              rw [← HO2.out, HE.out]
              rw [HO12.out]
              exact HL2.out
          · skip
            by_cases k2 : a.f0 = 2
            · skip
              have d0 : (a.f0 == 0) = false := by rw [beq_eq_false_iff_ne]; omega
              have d1 : (a.f0 == 1) = false := by rw [beq_eq_false_iff_ne]; omega
              have d2 : (a.f0 == 2) = true := by rw [beq_iff_eq]; omega
              have e : actOk p a σ (ws.map Prod.fst) = ((σ.done_ a.f1).1, (σ.done_ a.f1).2, ws.map Prod.fst) := by unfold actOk; rw [if_neg (by omega), if_neg (by omega), if_pos (by omega)]
              have HE := Lib.hid e
              have hok := HO1.out
              rw [e] at hok
              clear e k0 k1 k2
              obtain ⟨i1, i3⟩ := done_ok hok
              have i2 := open_in HF.out i1
              have hlo := HF.out.lo
              have i4 : a.f1 ≤ 1099511627776 := i2.2
              have i5 := i2.1
              have hwr : IntKind.u64.wrap a.f1 = a.f1 := u64_id (by omega) i4
              have HC2 := Lib.hid (Ms.done_calls HM1.out.st a.f1 N HF.out (by omega) i1)
              have HI3 := Lib.hid i3
              clear i3 hok i1 i2
              simp only [ptr] at HC2
              go_wp2_with fail
              refine HC2.out.mono ?_
              rintro e w1 ⟨rfl, hL⟩
              obtain ⟨T2, hI2⟩ := IM.step HM1.out hL (fun p hp => HM1.out.tb _ ((St.flags HM1.out.st) p hp).2)
              clear hL
              have HL2 := Lib.hid hI2
              clear hI2
              go_wp2_with fail
              go_meet
              case rel =>
                refine ⟨T2, ws, by rw [← HO3.out, HE.out], ?_⟩
                rw [← HO2.out, HE.out]
                rw [HI3.out]
                exact HL2.out
            · skip
              by_cases k3 : a.f0 = 3
              · skip
                have d0 : (a.f0 == 0) = false := by rw [beq_eq_false_iff_ne]; omega
                have d1 : (a.f0 == 1) = false := by rw [beq_eq_false_iff_ne]; omega
                have d2 : (a.f0 == 2) = false := by rw [beq_eq_false_iff_ne]; omega
                have d3 : (a.f0 == 3) = true := by rw [beq_iff_eq]; omega
                have e : actOk p a σ (ws.map Prod.fst) = ((manyD a.f2 (decide (0 < (a.f2.length : Int))) σ).1, (manyD a.f2 (decide (0 < (a.f2.length : Int))) σ).2, ws.map Prod.fst) := by unfold actOk; rw [if_neg (by omega), if_neg (by omega), if_neg (by omega), if_pos (by omega)]
                have HE := Lib.hid e
                have hok := HO1.out
                rw [e] at hok
                clear e k0 k1 k2 k3
                have hl0 : 0 < a.f2.length := by
                  refine Nat.pos_of_ne_zero (fun h => ?_)
                  have e : decide (0 < (a.f2.length : Int)) = false := decide_eq_false (by omega)
                  simp only [e, manyD_false] at hok
                  cases hok
                have hdl : decide (0 < (a.f2.length : Int)) = true := decide_eq_true (by omega)
                simp only [hdl] at hok
                rw [hdl] at HE
                obtain ⟨o1, o2, o3⟩ := manyD_ok HF.out hok
                have HO12 := Lib.hid o2
                have HO11 := Lib.hid o1
                have HNU := Lib.hid (impl_numbers.calls (a.f2.length + 1) A2 c2 a.f2 a.f2 wA HGA.out l2 (nums_f a.f2 (by omega) o3))
                clear o1 o2 o3 hok hdl
                go_wp2_with fail
                refine HNU.out.mono ?_
                rintro e w1 ⟨v7, rfl, hr7, hb7⟩
                have hM7 := HM1.out.keep (Kp.of_below hb7 _)
                have hbd7 := St.bound HM1.out.st
                have hr8 : (Kd.int .u64).R 53 w1 0 (fun k => ¬ T k) v7 a.f2 := Kd.R_mono (Kd.R_lower (Kd.R_bound hr7) (Nat.zero_le _)) (fun k hk h => by have := hbd7 k h; have := hk.2.1; omega)
                have HC2 := Lib.hid (Ms.doneMany_calls hM7.st a.f2 v7 N hl0 hr8 HO11.out (by omega))
                have HM7 := Lib.hid hM7
                clear hM7 hr7 hr8 hb7 hbd7
                simp only [ptr] at HC2
                go_wp2_with fail
                refine HC2.out.mono ?_
                rintro e w2 ⟨rfl, hL⟩
                obtain ⟨T2, hI2⟩ := IM.step HM7.out hL (fun p hp => HM7.out.tb _ ((St.flags HM7.out.st) p hp).2)
                clear hL
                have HL2 := Lib.hid hI2
                clear hI2
                go_wp2_with fail
                go_meet
                case rel =>
                  refine ⟨T2, ws, by rw [← HO3.out, HE.out], ?_⟩
                  rw [← HO2.out, HE.out]
                  rw [HO12.out]
                  exact HL2.out
              · skip
                by_cases k4 : a.f0 = 4
                · skip
                  have d0 : (a.f0 == 0) = false := by rw [beq_eq_false_iff_ne]; omega
                  have d1 : (a.f0 == 1) = false := by rw [beq_eq_false_iff_ne]; omega
                  have d2 : (a.f0 == 2) = false := by rw [beq_eq_false_iff_ne]; omega
                  have d3 : (a.f0 == 3) = false := by rw [beq_eq_false_iff_ne]; omega
                  have d4 : (a.f0 == 4) = true := by rw [beq_iff_eq]; omega
                  have e : actOk p a σ (ws.map Prod.fst) = (decide (0 ≤ a.f1) && decide (a.f1 ≤ most) && p, { σ with till := a.f1 }, ws.map Prod.fst) := by unfold actOk; rw [if_neg (by omega), if_neg (by omega), if_neg (by omega), if_neg (by omega), if_pos (by omega)]
                  have HE := Lib.hid e
                  have hok := HO1.out
                  rw [e] at hok
                  clear e k0 k1 k2 k3 k4
                  simp only [Bool.and_eq_true, decide_eq_true_eq] at hok
                  obtain ⟨⟨i1, i2⟩, i3⟩ := hok
                  have hws : ws = [] := by simpa using (HI.out.none_ i3).2
                  subst hws
                  have i4 : a.f1 ≤ 1099511627776 := i2
                  have hwr : IntKind.u64.wrap a.f1 = a.f1 := u64_id (by omega) i4
                  have HC2 := Lib.hid (Ms.set_calls HM1.out.st a.f1)
                  clear i3 i2
                  simp only [ptr] at HC2
                  go_wp2_with fail
                  refine HC2.out.mono ?_
                  rintro e w1 ⟨rfl, hL⟩
                  obtain ⟨T2, hI2⟩ := IM.step HM1.out hL (fun p hp => by cases hp)
                  clear hL
                  have HL2 := Lib.hid hI2
                  clear hI2
                  go_wp2_with fail
                  go_meet
                  case rel =>
                    refine ⟨T2, [], by rw [← HO3.out, HE.out], ?_⟩
                    rw [← HO2.out, HE.out]
                    exact HL2.out
                · skip
                  by_cases k5 : a.f0 = 5
                  · skip
                    have d0 : (a.f0 == 0) = false := by rw [beq_eq_false_iff_ne]; omega
                    have d1 : (a.f0 == 1) = false := by rw [beq_eq_false_iff_ne]; omega
                    have d2 : (a.f0 == 2) = false := by rw [beq_eq_false_iff_ne]; omega
                    have d3 : (a.f0 == 3) = false := by rw [beq_eq_false_iff_ne]; omega
                    have d4 : (a.f0 == 4) = false := by rw [beq_eq_false_iff_ne]; omega
                    have d5 : (a.f0 == 5) = true := by rw [beq_iff_eq]; omega
                    have e : actOk p a σ (ws.map Prod.fst) = (decide (1 ≤ a.f1) && decide (a.f1 ≤ most), σ, ws.map Prod.fst ++ [a.f1]) := by unfold actOk; rw [if_neg (by omega), if_neg (by omega), if_neg (by omega), if_neg (by omega), if_neg (by omega), if_pos (by omega)]
                    have HE := Lib.hid e
                    have hok := HO1.out
                    rw [e] at hok
                    clear e k0 k1 k2 k3 k4 k5
                    simp only [Bool.and_eq_true, decide_eq_true_eq] at hok
                    obtain ⟨i1, i2⟩ := hok
                    have i4 : a.f1 ≤ 1099511627776 := i2
                    have hwr : IntKind.u64.wrap a.f1 = a.f1 := u64_id (by omega) i4
                    have hwl := HH.out.wl
                    rw [List.length_map] at hwl
                    have hwl2 : ws.length ≤ 1000000000000 := by omega
                    have HC2 := Lib.hid (Mt.wait_calls HM1.out.st a.f1 hwl2)
                    clear i2
                    simp only [ptr] at HC2
                    go_wp2_with fail
                    refine HC2.out.mono ?_
                    rintro e w1 ⟨b, hbl, rfl, hL⟩
                    obtain ⟨T2, hI2⟩ := IM.step HM1.out hL (fun p hp => by
                      rcases List.mem_append.1 hp with hp | hp
                      · exact HM1.out.tb _ ((St.flags HM1.out.st) p hp).2
                      · rw [List.mem_singleton.1 hp]; exact Nat.le_trans HM1.out.bl.size hbl)
                    have HL2 := Lib.hid hI2
                    have hfr : ∀ k, w1.heap.size ≤ k → ¬ T2 k := fun k hk h => by have := St.bound HL2.out.st k h; omega
                    have HFR := Lib.hid hfr
                    have hlb5 : ((ws.map Prod.snd).length + 1) * 8 ≤ 140737488355328 := by rw [List.length_map]; omega
                    clear hL hI2 hfr hbl
                    go_wp2_with (first | ((with_reducible refine gate_builtin (b := .append) (xs := #[.tmp 59, .tmp 65]) rfl ?_); at_builtin; refine Kd.R_append ptrK (w0 := w) w.heap.size rfl (.tmp 59) (.tmp 65) 51 57 (.pointer none) 8 rfl Try.underlying51 Pr.info57 rfl (by decide) (by decide) u4 (ws.map Prod.snd) b [.pointer (some ⟨b, 0, none⟩)] (fun k => ¬ T2 k) (fun _ => False) rfl rfl rfl (fun _ h => h.elim) HFR.out HL2.out.r4 HL2.out.bl HL2.out.bl.size hlb5 ?_; intro v9 w9 hr9 hb9 hg9 hn9))
                    go_meet
                    case rel =>
                      refine ⟨T2, ws ++ [(a.f1, b)], by rw [← HO3.out, HE.out, List.map_append]; rfl, ?_⟩
                      rw [← HO2.out, HE.out, List.map_append]
                      have kg := Kp.of_grown hg9
                      exact ⟨St.kpT HL2.out.st kg (fun k hT hS => HL2.out.r4.1 k hS hT), HL2.out.tb, hr9, keepS HL2.out.s5 kg (fun k hk _ => by
                        obtain ⟨cells, hc⟩ := Kd.R_typed HL2.out.r4 k hk
                        exact ⟨cells, 57, hc, by decide⟩), hb9⟩
                  · skip
                    have hok := HO1.out
                    have e : actOk p a σ (ws.map Prod.fst) = (false, σ, ws.map Prod.fst) := by unfold actOk; rw [if_neg (by omega), if_neg (by omega), if_neg (by omega), if_neg (by omega), if_neg (by omega), if_neg (by omega)]
                    rw [e] at hok
                    cases hok
      case rest =>
        obtain ⟨wq, hwq⟩ : ∃ x : World, x = wc := ⟨_, rfl⟩
        subst hwq
        obtain ⟨T2, ws2, hwf, hM2⟩ := hcut
        have HM2 := Lib.hid hM2
        have HWF := Lib.hid hwf
        have hinv2 : Inv (a.f0 == 4) σ2 wts2 (N + weight a) := by
          have h2 := act_inv HI.out HO1.out
          rw [HO2.out, HO3.out] at h2
          exact h2
        have HI2 := Lib.hid hinv2
        have hwts : (wts2.length : Int) ≤ N + 1 := by
          have h1 := act_len p a σ (ws.map Prod.fst)
          rw [HO3.out] at h1
          have h2 := HH.out.wl
          omega
        have hwsl : ws2.length = wts2.length := by rw [← hwf, List.length_map]
        have hws9 : ws2.length ≤ 1000000000000 := by omega
        clear hwsl
        have HT := Lib.hid (till_calls hM2.st)
        have HL := Lib.hid (last_calls hM2.st)
        have HPD := Lib.hid (pending_calls hM2.st)
        have HWT := Lib.hid (waiting_calls hM2.st hws9)
        obtain ⟨till, htl⟩ : ∃ t, σ2.till = t := ⟨_, rfl⟩
        obtain ⟨lst, hls⟩ : ∃ t, σ2.last = t := ⟨_, rfl⟩
        obtain ⟨pl, hpl⟩ : ∃ t, σ2.pend.length = t := ⟨_, rfl⟩
        obtain ⟨lt, hlt⟩ : ∃ t, late σ2 ws2 = t := ⟨_, rfl⟩
        have hl1 := hinv2.fine.lo
        have hl2 : σ2.till ≤ 1099511627776 := hinv2.fine.hi
        have hl3 := hinv2.last.1
        have hl4 : σ2.last ≤ 1099511627776 := hinv2.last.2
        rw [htl] at HT hl1 hl2
        rw [hls] at HL hl3 hl4
        rw [hpl] at HPD
        rw [hlt] at HWT
        have HTL := Lib.hid htl
        have HLS := Lib.hid hls
        have HPL := Lib.hid hpl
        have HLT := Lib.hid hlt
        have hc1 : IntKind.i64.wrap till = till := i64_id hl1 hl2
        have hc2 : IntKind.i64.wrap lst = lst := i64_id hl3 hl4
        clear b0 b1 b2 HM1 HM hwf hM2 hinv2 htl hls hpl hlt
        simp only [ptr] at HT HL HPD HWT
        go_wp2_with fail
        refine HT.out.mono ?_
        rintro e w1 ⟨rfl, rfl⟩
        go_wp2_with fail
        refine HL.out.mono ?_
        rintro e w1 ⟨rfl, rfl⟩
        go_wp2_with fail
        refine HPD.out.mono ?_
        rintro e w1 ⟨rfl, rfl⟩
        go_wp2_with fail
        refine HWT.out.mono ?_
        rintro e w1 ⟨rfl, hk1⟩
        have HM3 := Lib.hid (HM2.out.keep hk1)
        clear hk1 HM2
        go_upto_region 21 with (fail)
        obtain ⟨wz, hwz⟩ : ∃ x : World, x = w1 := ⟨_, rfl⟩
        subst hwz
        have bk := blk_new wz (Obj.cells #[.int .i64 till, .int .i64 lst, .int .i64 pl, .int .i64 lt, .slice none 0 0] 34)
        have hK0 : Kp wz (wz.alloc (Obj.cells #[.int .i64 till, .int .i64 lst, .int .i64 pl, .int .i64 lt, .slice none 0 0] 34)) (fun k => wz.heap.size ≤ k) := (Kp.refl wz _).alloc _
        generalize wz.alloc (Obj.cells #[.int .i64 till, .int .i64 lst, .int .i64 pl, .int .i64 lt, .slice none 0 0] 34) = wB at bk hK0 ⊢
        obtain ⟨n1, hn1⟩ : ∃ n, wz.heap.size = n := ⟨_, rfl⟩
        have HWN := Lib.hid hn1
        rw [hn1] at bk hK0 ⊢
        have BK0 := Lib.hid bk
        have HK0 := Lib.hid hK0
        have hTn : ∀ k, T2 k → k < n1 := by rw [← hn1]; exact St.bound HM3.out.st
        have HTN := Lib.hid hTn
        have hwb : w.heap.size ≤ n1 := by rw [← hn1]; exact HM3.out.bl.size
        clear hn1 bk hK0 hTn
        have hol := HH.out.ol
        have hout3 : out.length ≤ 1099511627776 := by omega
        obtain ⟨A5, c5, e5⟩ := Kd.R_slice HM3.out.r4
        obtain ⟨n5, hn5⟩ : ∃ n, (ws2.map Prod.snd).length = n := ⟨_, rfl⟩
        rw [hn5] at e5
        rw [List.length_map] at hn5
        subst e5
        subst hn5
        go_wp2_with fail
        go_loopg [80] ws2.length (fun kq v80 wr => ∃ (m : Nat) (u : Value), v80 = .int .i64 m ∧ kq = ws2.length - m ∧ m ≤ ws2.length ∧ wr.heap[n1]? = some (.cells #[.int .i64 till, .int .i64 lst, .int .i64 pl, .int .i64 lt, u] 34 (0, 0)) ∧ Kd.bool.R 4 wr n1 (fun _ => True) u ((ws2.take m).map fun p => decide (p.1 ≤ till)) ∧ Kp wz wr (fun k => n1 ≤ k))
        case atStart => exact ⟨0, .slice none 0 0, rfl, by omega, Nat.zero_le _, BK0.out, Kd.R_nil _ _ _ _ _, HK0.out⟩
        case round =>
          obtain ⟨m, u, rfl, hkq2, hm1, hbk, hru, hKw⟩ := hrel
          have HBK := Lib.hid hbk
          have HER := Lib.hid hru
          have HKW := Lib.hid hKw
          have HKQ2 := Lib.hid hkq2
          have hn1 : n1 ≤ wr.heap.size := by have := blk_lt hbk; omega
          have hrx := keepR HM3.out.r4 hKw (fun k h hl => by have := HWN.out; omega)
          by_cases m1 : m < ws2.length
          · obtain ⟨ad3, e3, y3⟩ := at_ptr (Kd.R_reads' hrx).2.2 m (by rw [List.length_map]; omega)
            subst e3
            obtain ⟨i3, fb, hp3⟩ : ∃ i b, ws2[m] = (i, b) := ⟨_, _, rfl⟩
            have hfl3 := St.flags HM3.out.st (ws2[m]) (List.getElem_mem _)
            rw [hp3] at hfl3
            have hfb : (ws2.map Prod.snd).getD m 0 = fb := by simp [m1, hp3]
            rw [hfb] at y3
            simp only [ptr] at y3
            have hflt : fb < n1 := by have h1 := blk_lt hfl3.1; have h2 := HWN.out; rw [h2] at h1; exact h1
            have hfw := hKw.blk hfl3.1 (by show ¬ n1 ≤ fb; omega)
            obtain ⟨bq, hbq⟩ : ∃ b, decide (i3 ≤ till) = b := ⟨_, rfl⟩
            have t0 : wr.cell? ⟨fb, 0, none⟩ = some (.bool bq) := by
              have h := blk_cell hfw 0
              rw [← hbq, ← HTL.out]
              exact h
            have htk : ws2.take (m + 1) = ws2.take m ++ [(i3, fb)] := by
              rw [List.take_add_one, List.getElem?_eq_getElem m1, hp3]
              rfl
            have HTK := Lib.hid htk
            have HBQ := Lib.hid hbq
            obtain ⟨xs, hxs⟩ : ∃ c, (ws2.take m).map (fun p => decide (p.1 ≤ till)) = c := ⟨_, rfl⟩
            have hxl : xs.length ≤ ws2.length := by rw [← hxs, List.length_map, List.length_take]; omega
            rw [hxs] at HER
            have hlx : (xs.length + 1) * 1 ≤ 140737488355328 := by omega
            have HXS := Lib.hid hxs
            have q4 : wr.cell? ⟨n1, 4, none⟩ = some u := blk_cell HBK.out 4
            have HNB := Lib.hid (show ¬ some n1 = u.ownBlock from fun h => by
              obtain ⟨cells, hc⟩ := Kd.R_typed HER.out n1 h.symm
              rw [HBK.out] at hc
              injection hc with hc; injection hc with _ hc; cases hc)
            have HNW := Lib.hid (show ¬ some fb = u.ownBlock from fun h => by
              obtain ⟨_, hbb, _, _⟩ := (Kd.R_bound HER.out).1 _ h.symm
              omega)
            have hne : fb ≠ n1 := by omega
            clear htk hbq hxs hfw hfl3 hp3 hfb hrx hbk hru hKw hkq2
            go_upto_region 24 with (fail)
            refine start_ (n := 10) (S := fun w' => w'.cell? ⟨n1, 4, none⟩ = some u ∧ w'.cell? ⟨fb, 0, none⟩ = some (.bool bq)) (ds := [9]) #[false, false, false, false, false, false, false, false, false, false] (by kernel_rfl) rfl rfl ⟨q4, t0⟩ (fun hHeld => ?_)
            refine pure_ (i := 0) (N := some 84) (v := ?_) (a' := ?_) #[true, false, false, false, false, false, false, false, false, false] rfl rfl (by kernel_rfl) (fun _ _ _ h => h) (Or.inl ⟨by rfl, ?_⟩) ?_ ?_
            rotate_left
            · intro w'
              go_simp
              with_reducible rfl
            rotate_left
            · simp only [Act.put, List.setIfInBounds_toArray, List.set_cons_zero, List.set_cons_succ, i64_w, i32_w]
              rfl
            refine pure_ (i := 2) (N := some 86) (v := ?_) (a' := ?_) #[true, false, true, false, false, false, false, false, false, false] rfl rfl (by kernel_rfl) (fun _ _ _ h => h) (Or.inl ⟨by rfl, ?_⟩) ?_ ?_
            rotate_left
            · intro w'
              go_simp
              with_reducible rfl
            rotate_left
            · simp only [Act.put, List.setIfInBounds_toArray, List.set_cons_zero, List.set_cons_succ, i64_w, i32_w]
              rfl
            refine pure_ (i := 3) (N := some 87) (v := ?_) (a' := ?_) #[true, false, true, true, false, false, false, false, false, false] rfl rfl (by kernel_rfl) (fun _ _ _ h => h) (Or.inl ⟨by rfl, ?_⟩) ?_ ?_
            rotate_left
            · intro w'
              go_simp
              with_reducible rfl
            rotate_left
            · simp only [Act.put, List.setIfInBounds_toArray, List.set_cons_zero, List.set_cons_succ, i64_w, i32_w]
              rfl
            refine pure_ (i := 4) (N := some 88) (v := ?_) (a' := ?_) #[true, false, true, true, true, false, false, false, false, false] rfl rfl (by kernel_rfl) (fun _ _ _ h => h) (Or.inl ⟨by rfl, ?_⟩) ?_ ?_
            rotate_left
            · intro w'
              go_simp
              with_reducible rfl
            rotate_left
            · simp only [Act.put, List.setIfInBounds_toArray, List.set_cons_zero, List.set_cons_succ, i64_w, i32_w]
              rfl
            refine take_ (i := 1) (N := some 85) (v := ?_) (a' := ?_) #[true, true, true, true, true, false, false, false, false, false] rfl rfl (by kernel_rfl) (fun _ _ _ h => h) (Or.inl ⟨by rfl, ?_⟩) hHeld ?_ ?_
            rotate_left
            · rintro w' ⟨s0, s1⟩
              go_simp
              with_reducible rfl
            rotate_left
            · simp only [Act.put, List.setIfInBounds_toArray, List.set_cons_zero, List.set_cons_succ, i64_w, i32_w]
              rfl
            refine take_ (i := 5) (N := some 89) (v := ?_) (a' := ?_) #[true, true, true, true, true, true, false, false, false, false] rfl rfl (by kernel_rfl) (fun _ _ _ h => h) (Or.inl ⟨by rfl, ?_⟩) hHeld ?_ ?_
            rotate_left
            · rintro w' ⟨s0, s1⟩
              go_simp
              with_reducible rfl
            rotate_left
            · simp only [Act.put, List.setIfInBounds_toArray, List.set_cons_zero, List.set_cons_succ, i64_w, i32_w]
              rfl
            refine one_ (i := 6) (N := some 90) #[true, true, true, true, true, true, true, false, false, false] rfl rfl (by kernel_rfl) (by decide) (fun K hK => ?_)
            refine value_ (w1 := ?_) (v := ?_) (by rfl) rfl ?_ ?_
            rotate_left 2
            · go_simp
              constructor
              · rfl
              · rfl
            refine hK.out _ _ ⟨past1 (w := wr.drew) q4 _, past1 (w := wr.drew) t0 _⟩ (fun hHeld => ?_)
            clear hK K
            refine norm_ (a' := ?_) ?_ ?_
            rotate_left
            · show Act.put _ (some 90) _ = _
              simp only [Act.put, List.setIfInBounds_toArray, List.set_cons_zero, List.set_cons_succ, i64_w, i32_w]
              rfl
            refine one_ (i := 7) (N := some 91) #[true, true, true, true, true, true, true, true, false, false] rfl rfl (by kernel_rfl) (by decide) (fun K hK => ?_)
            refine Kd.R_append_step Kd.bool (w0 := wr) (W := wr.drew) n1 (by rfl) (.tmp 85) (.tmp 90) 32 4 (.bool false) 1 (by rfl) Try.underlying32 info4 rfl (by decide) (by decide) u xs bq [.bool bq] (fun _ => True) (fun _ => False) rfl rfl rfl (fun _ h => h.elim) (fun _ _ => trivial) (Kd.R_drew HER.out) ((Below.refl n1 wr).drew) hn1 hlx ?_
            intro v1 w1 hr1 hb1 hg1 hn2
            obtain ⟨n7, A1, c1, rfl⟩ : ∃ n A c, v1 = .slice A n c := (by obtain ⟨A, c, e⟩ := Kd.R_slice hr1; exact ⟨_, A, c, e⟩)
            have kg : Kp wr w1 (fun k => some k = u.ownBlock) := ((Kp.refl wr (fun k => some k = u.ownBlock)).drew).grown hg1 (fun k hk => .inl hk.symm)
            have q4' := kg.cell q4 HNB.out
            have t0' := kg.cell t0 HNW.out
            have q4f := blk_frozen (kg.blk HBK.out HNB.out) 4
            refine hK.out _ _ ⟨q4', t0'⟩ (fun hHeld => ?_)
            clear hK K
            refine norm_ (a' := ?_) ?_ ?_
            rotate_left
            · show Act.put _ (some 91) _ = _
              simp only [Act.put, List.setIfInBounds_toArray, List.set_cons_zero, List.set_cons_succ, i64_w, i32_w]
              rfl
            refine pure_ (i := 8) (N := some 92) (v := ?_) (a' := ?_) #[true, true, true, true, true, true, true, true, true, false] rfl rfl (by kernel_rfl) (fun _ _ _ h => h) (Or.inl ⟨by rfl, ?_⟩) ?_ ?_
            rotate_left
            · intro w'
              go_simp
              with_reducible rfl
            rotate_left
            · simp only [Act.put, List.setIfInBounds_toArray, List.set_cons_zero, List.set_cons_succ, i64_w, i32_w]
              rfl
            refine last_ (i := 9) (N := none) #[true, true, true, true, true, true, true, true, true, true] rfl rfl (by kernel_rfl) (by decide) (fun K hK => ?_)
            refine skip_ (w1 := ?_) (by rfl) rfl ?_ ?_
            rotate_left
            · go_simp
              rfl
            refine hK.out _ _ ?_
            clear hK K
            refine done_ (by kernel_rfl) ?_

            have hb9 := kg.blk HBK.out HNB.out
            have p9 := blk_put hb9 4 (.slice A1 n7 c1) rfl
            have r9 := Kd.R_set hr1 hb9 (by decide) 4 (.slice A1 n7 c1)
            have k9 : Kp wz (w1.setCell ⟨n1, 4, none⟩ (.slice A1 n7 c1)) (fun k => n1 ≤ k) := (HKW.out.trans kg (fun k hk => .inl ((Kd.R_bound HER.out).1 _ hk.symm).2.1)).setCell (.inl (Nat.le_refl _)) _
            have hxm : xs ++ [bq] = (ws2.take (m + 1)).map (fun p => decide (p.1 ≤ till)) := by rw [HTK.out, List.map_append, HXS.out, ← HBQ.out]; rfl
            have HP9 := Lib.hid p9
            have HR9 := Lib.hid r9
            have HK9 := Lib.hid k9
            have HXM := Lib.hid hxm
            clear hb9 p9 r9 k9 hxm hr1 hb1 hg1 hn2 kg
            go_wp2_with fail
            go_roundg (ws2.length - (m + 1))
            case measure => have := HKQ2.out; omega
            case rel => exact ⟨m + 1, .slice A1 n7 c1, by go_num, by omega, by omega, HP9.out, by rw [← HXM.out]; exact HR9.out, HK9.out⟩
          · have hme : ws2.take m = ws2 := List.take_of_length_le (by omega)
            rw [hme] at HER
            obtain ⟨A8, c8, e8⟩ := Kd.R_slice HER.out
            obtain ⟨n8, hn8⟩ : ∃ n, (ws2.map fun p => decide (p.1 ≤ till)).length = n := ⟨_, rfl⟩
            rw [hn8] at e8
            subst e8
            obtain ⟨en, hen⟩ : ∃ c, (ws2.map fun p => decide (p.1 ≤ till)) = c := ⟨_, rfl⟩
            rw [hen] at HER
            have q0 : wr.cell? ⟨n1, 0, none⟩ = some (.int .i64 till) := blk_cell HBK.out 0
            have q1 : wr.cell? ⟨n1, 1, none⟩ = some (.int .i64 lst) := blk_cell HBK.out 1
            have q2 : wr.cell? ⟨n1, 2, none⟩ = some (.int .i64 pl) := blk_cell HBK.out 2
            have q3 : wr.cell? ⟨n1, 3, none⟩ = some (.int .i64 lt) := blk_cell HBK.out 3
            have q4 : wr.cell? ⟨n1, 4, none⟩ = some (.slice A8 n8 c8) := blk_cell HBK.out 4
            have hmk : markOf σ2 wts2 = ⟨till, lst, pl, lt, en⟩ := by
              unfold markOf
              rw [HTL.out, HLS.out, HPL.out, ← hen, ← HWF.out, List.map_map]
              have := late_eq σ2 ws2
              rw [HLT.out, HTL.out] at this
              rw [← this]
              rfl
            have HMK := Lib.hid hmk
            have hoff : Off wz (fun k => n1 ≤ k) [3, 34, 4, 47, 73, 57] := fun k h hl => by have := HWN.out; omega
            have s6 : Kd.S k34 34 wr w.heap.size (fun k => ¬ T2 k ∧ ¬ n1 ≤ k) u5 out :=
              Kd.S_kept (Kd.S_mono (Kd.S_bound HM3.out.s5) (fun k hk => ⟨hk.1, by have := HWN.out; have := hk.2.2.1; omega⟩)) HKW.out.kept (fun k h => h.2)
            have hbl : Below w.heap.size w wr := HM3.out.bl.trans (HKW.out.toBelowB HM3.out.bl.size (fun k h => by omega))
            have hpm : k34.M wr w.heap.size (fun k => n1 ≤ k) ⟨till, lst, pl, lt, en⟩ [.int .i64 till, .int .i64 lst, .int .i64 pl, .int .i64 lt, .slice A8 n8 c8] :=
              k34_mkM _ _ _ ⟨till, lst, pl, lt, en⟩ (Kd.R_mono (Kd.R_lower (Kd.R_bound HER.out) (by omega)) (fun k hk => hk.2.1))
            have hlo : (out.length + 1) * 56 ≤ 140737488355328 := by omega
            have hown : ∀ k, n1 ≤ k → ¬ T2 k ∧ some k ≠ u5.ownBlock := fun k hk => ⟨fun h => by have := HTN.out k h; omega, fun h => (((Kd.S_R s6).1 k h.symm).2 hk)⟩
            have hst : St wr T2 wb σ2 ws2 := St.kpT HM3.out.st HKW.out (fun k h h2 => by have := HTN.out k h; omega)
            have hfr : ∀ k, wr.heap.size ≤ k → ¬ T2 k := fun k hk h => by have := HTN.out k h; omega
            have HS6 := Lib.hid s6
            have HBL := Lib.hid hbl
            have HPM := Lib.hid hpm
            have HOWN := Lib.hid hown
            have HOFF := Lib.hid hoff
            have HST := Lib.hid hst
            have HFR := Lib.hid hfr
            clear hen hmk hoff s6 hbl hpm hown hn8 hrx hbk hru hKw hkq2 hst hfr
            go_wp2_with (first | ((with_reducible refine gate_builtin (b := .append) (xs := #[.tmp 94, .tmp 96]) rfl ?_); at_builtin; refine Kd.S_append k34 (w0 := w) w.heap.size rfl (.tmp 94) (.tmp 96) 24 34 (.agg #[(.int .i64 0), (.int .i64 0), (.int .i64 0), (.int .i64 0), (.slice none 0 0)]) 56 rfl Try.underlying24 info34 rfl (by decide) (by decide) u5 out ⟨till, lst, pl, lt, en⟩ [.int .i64 till, .int .i64 lst, .int .i64 pl, .int .i64 lt, .slice A8 n8 c8] (fun k => ¬ T2 k) (fun k => n1 ≤ k) rfl rfl HPM.out HOWN.out HFR.out HS6.out HBL.out HBL.out.size hlo ?_; intro v9 w9 hs9 hb9 hg9 hn9))
            go_roundg (l0.length - (j + 1))
            case measure => have := HKQ.out; omega
            case rel =>
              have kg := Kp.of_grown hg9
              have hof : ∀ ts, 34 ∉ ts → Off wr (fun k => u5.ownBlock = some k) ts := fun ts hts k hk _ => by
                obtain ⟨cells, hc⟩ := Kd.S_typed HS6.out k hk
                exact ⟨cells, 34, hc, hts⟩
              have e9 : prevSet l0 (j + 1) = (a.f0 == 4) := by
                simp only [prevSet]
                rw [show ((j + 1 : Nat) : Int) - 1 = (j : Int) by omega, HA.out]
                simp
              refine ⟨j + 1, T2, σ2, ws2, out ++ [markOf σ2 wts2], N + weight a, by go_num, by omega, ⟨by omega, ?_, ?_, ?_, ?_, ?_⟩, ?_, ⟨St.kpT HST.out kg (fun k h hS => ((Kd.S_R HS6.out).1 k hS).1 h), HM3.out.tb, keepR (keepR HM3.out.r4 HKW.out (off_mono HOFF.out (by decide))) kg (hof _ (by decide)), by rw [HMK.out]; exact hs9, hb9⟩⟩
              · rw [e9, HWF.out]; exact HI2.out
              · have h := HH.out.bd
                rw [HDR.out] at h
                simp only [tot, List.map_cons, List.sum_cons] at h ⊢
                omega
              · rw [HH.out.res, HP.out, HDR.out, e9, HWF.out]
                simp only [run, HO1.out, HO2.out, HO3.out, if_true, Option.map_map]
                congr 1
                funext r
                simp
              · rw [HWF.out]
                simp only [weight]
                omega
              · have h2 := HH.out.ol
                simp only [weight, List.length_append, List.length_singleton]
                omega
              · have h := HB3.out
                rw [HDR.out] at h
                simp only [tot, List.map_cons, List.sum_cons] at h ⊢
                omega
    · go_wp2_with fail
      go_ret
      have hje : l0.drop j = [] := List.drop_of_length_le (by omega)
      have hres : r = out := by
        have h := HH.out.res
        rw [HRUN.out, hje] at h
        simpa [run] using h
      refine ⟨u5, rfl, ?_, HM.out.bl⟩
      rw [hres]
      exact Kd.S_mono HM.out.s5 (fun _ _ => trivial)
end Go.Proofs.Ytimakagmhikhfaa.Rn
