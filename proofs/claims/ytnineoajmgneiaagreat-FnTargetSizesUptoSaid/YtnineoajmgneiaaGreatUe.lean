/- FnTargetSizes: the walk. -/
import Derived.Test.YtnineoajmgneiaaGreatZh
namespace Go.Proofs.YtnineoajmgneiaaGreat.fnTargetSizes
open Go.RowKit YtnineoajmgneiaaGreatW YtnineoajmgneiaaGreatW.PrintWords YtnineoajmgneiaaGreatW.PrintLast YtnineoajmgneiaaGreatW.PrintMore Fr L Ky Tm Lm It Tg Tp Tl Lk Lo
set_option linter.unusedVariables false
set_option linter.unusedSimpArgs false
set_option maxRecDepth 100000 in
set_option maxHeartbeats 8000000 in
theorem calls {w : World} {A0 : Option Addr} {c0 : Nat} {ls : List (List S68)} {m a b c d e f g : Int} (hC : Kd.C (Kd.slice 68 k68) w A0 ls.length ls) (hc0 : ls.length ≤ c0) (hl0 : ls.length ≤ 2000000) (hl1 : ∀ l ∈ ls, l.length ≤ 2000000) (hts : ∀ l ∈ ls, ∀ t ∈ l, t.f1.size ≤ 2000000 ∧ t.f3.size ≤ 2000000) :
    Calls Tryz.prog 4 #[.slice A0 ls.length c0, .agg #[.int .i64 m, .int .i64 a, .int .i64 b, .int .i64 c, .int .i64 d, .int .i64 e, .int .i64 f, .int .i64 g]] w fun en w' => en = .returned (.bool true) ∧ Below w.heap.size w w' := by
  obtain ⟨Q, hQ⟩ : ∃ Q : Ending → World → Prop, Q = fun en w' => en = .returned (.bool true) ∧ Below w.heap.size w w' := ⟨_, rfl⟩
  rw [← hQ]
  have HQ := Lib.hid hQ
  have HC := Lib.hid hC
  have HC0 := Lib.hid hc0
  have HTS := Lib.hid hts
  have K22 := Lib.hid (fun W (hW : Below w.heap.size w W) => laws_zzFits6.calls (ls.length + 2000002) A0 c0 ls true W (Kd.C_below hC hW) hc0 (fits6 hl0 hl1 hts))
  have K23 := Lib.hid (fun W (hW : Below w.heap.size w W) => ok_calls (w := W) (m := m) (a := a) (b := b) (c := c) (d := d) (e := e) (f := f) (g := g) (Kd.C_below hC hW) hc0 (by omega) hts)
  have K24 := Lib.hid (fun W => Lw.work_calls (w := W))
  clear hQ hC hc0 hts hl0 hl1
  go_enter Tryz.func4, Tryz.ntmps4
  go_upto_region 1 with (fail)
  obtain ⟨w1, hw1⟩ : ∃ w1, w1 = w.alloc (.cells #[.int .i64 m, .int .i64 a, .int .i64 b, .int .i64 c, .int .i64 d, .int .i64 e, .int .i64 f, .int .i64 g] 24) := ⟨_, rfl⟩
  rw [← hw1]
  obtain ⟨b3, hb3⟩ : ∃ b3, b3 = w.heap.size := ⟨_, rfl⟩
  rw [← hb3]
  have HB1 := Lib.hid (show Below w.heap.size w w1 by rw [hw1]; exact below_alloc (Below.refl _ _) _)
  have HO1 := Lib.hid (show w1.heap[b3]? = some (.cells #[.int .i64 m, .int .i64 a, .int .i64 b, .int .i64 c, .int .i64 d, .int .i64 e, .int .i64 f, .int .i64 g] 24 (0, 0)) by rw [hw1, hb3]; exact blk_new w _)
  clear hw1 hb3
  go_wp2_with fail
  refine (K22.out w1 HB1.out).mono ?_
  rintro en w2 ⟨rfl, hb2⟩
  have HB2 := Lib.hid (below_step HB1.out hb2)
  have HO2 := Lib.hid ((hb2.block _ (blk_lt HO1.out)).trans HO1.out)
  clear hb2 K22
  have o0 := blk_cell HO2.out 0
  have o1 := blk_cell HO2.out 1
  have o2 := blk_cell HO2.out 2
  have o3 := blk_cell HO2.out 3
  have o4 := blk_cell HO2.out 4
  have o5 := blk_cell HO2.out 5
  have o6 := blk_cell HO2.out 6
  have o7 := blk_cell HO2.out 7
  go_wp2_with fail
  refine (K23.out w2 HB2.out).mono ?_
  rintro en w3 ⟨r, rfl, hok, hb3⟩
  have HB3 := Lib.hid (below_step HB2.out hb3)
  have HO3 := Lib.hid ((hb3.block _ (blk_lt HO2.out)).trans HO2.out)
  have HOK := Lib.hid hok
  clear hok hb3 K23 o0 o1 o2 o3 o4 o5 o6 o7
  cases r with
  | false =>
    go_wp2_with fail
    refine (K24.out w3).mono ?_
    rintro en w4 ⟨rfl, hb4⟩
    have HB4 := Lib.hid (below_step HB3.out hb4)
    clear hb4
    go_wp2_with fail
    rw [HQ.out]
    exact ⟨rfl, HB4.out⟩
  | true =>
    have HLV := Lib.hid (HOK.out rfl)
    have o0 := blk_cell HO3.out 0
    have o1 := blk_cell HO3.out 1
    have o2 := blk_cell HO3.out 2
    have o3 := blk_cell HO3.out 3
    have o4 := blk_cell HO3.out 4
    have o5 := blk_cell HO3.out 5
    have o6 := blk_cell HO3.out 6
    have o7 := blk_cell HO3.out 7
    have K25 := Lib.hid (targets_ok (Kd.C_below HC.out HB3.out) HC0.out HLV.out HTS.out)
    go_wp2_with fail
    refine K25.out.mono ?_
    rintro en w4 ⟨A, cA, B, cB, rfl, hcA, hA, hcB, hB, hb4⟩
    have HA := Lib.hid hA
    have HCA := Lib.hid hcA
    have HB := Lib.hid hB
    have HCB := Lib.hid hcB
    have HB4 := Lib.hid (below_step HB3.out hb4)
    have HO4 := Lib.hid ((hb4.block _ (blk_lt HO3.out)).trans HO3.out)
    clear hA hcA hB hcB hb4 K25 o0 o1 o2 o3 o4 o5 o6 o7
    obtain ⟨sz, hsz⟩ : ∃ sz, sz = (ls.map (·.map tbOf)).map total := ⟨_, rfl⟩
    rw [← hsz] at HA HB HCA HCB ⊢
    have HSZ := Lib.hid hsz
    have HSL := Lib.hid (show sz.length = ls.length by rw [hsz, List.length_map, List.length_map])
    clear hsz
    obtain ⟨T, hT⟩ : ∃ T, T = (blT ⟨m, a, b, c, d, e, f, g⟩ sz).2 := ⟨_, rfl⟩
    rw [← hT] at HA HCA ⊢
    have HTL := Lib.hid (show T.length = ls.length by rw [hT, T_len, HSL.out])
    have K28 := Lib.hid (spec_Wanted.calls 60000 A0 c0 ls m a b c d e f g T w4 (Kd.C_below HC.out HB4.out) HC0.out (by rw [hT, HSZ.out]; exact wanted_spec HLV.out.opt.a.1 (by have := ok_len HLV.out; omega) (by have := ok_len HLV.out; omega) (fun l hl => by have := (ok_mem HLV.out hl).1; omega) (ok_in HLV.out HTS.out) (Nat.le_refl _)))
    generalize bl4 ⟨m, a, b, c, d, e, f, g⟩ sz = bb
    generalize (files ⟨m, a, b, c, d, e, f, g⟩ sz).length = nF
    clear hT HB HCB
    have o0 := blk_cell HO4.out 0
    have o1 := blk_cell HO4.out 1
    have o2 := blk_cell HO4.out 2
    have o3 := blk_cell HO4.out 3
    have o4 := blk_cell HO4.out 4
    have o5 := blk_cell HO4.out 5
    have o6 := blk_cell HO4.out 6
    have o7 := blk_cell HO4.out 7
    go_wp2_with fail
    refine K28.out.mono ?_
    rintro en w5 ⟨v5, rfl, hr5, hb5⟩
    obtain ⟨A5, c5, rfl⟩ := Kd.R_slice hr5
    obtain ⟨-, l5, hC5⟩ := Kd.R_reads' hr5
    have HB5 := Lib.hid (below_step HB4.out hb5)
    have hle : 1 ≤ T.length := by have := HTL.out; have := ok_len HLV.out; omega
    have C1 := Kd.C_drop (m := 1) (Kd.C_below HA.out hb5) hle HCA.out
    have C2 := Kd.C_drop (m := 1) hC5 hle l5
    obtain ⟨i3, hi3, -⟩ := Option.map_eq_some_iff.1 info3
    have S1 := Lib.hid (cut_from (P := Tryz.prog) 28 3 .i64 (by kernel_rfl) hi3 1 (by have h := info3; rw [hi3] at h; injection h with h; injection h with _ h; injection h) A T.length cA 1 (by omega) (by omega))
    have S2 := Lib.hid (cut_from (P := Tryz.prog) 28 3 .i64 (by kernel_rfl) hi3 1 (by have h := info3; rw [hi3] at h; injection h with h; injection h with _ h; injection h) A5 T.length c5 1 (by omega) (by omega))
    rw [show ((1 : Int)).toNat = 1 from rfl] at S1 S2
    have hdl : (T.drop 1).length = T.length - 1 := List.length_drop
    rw [show (Kd.int .i64).sz = 1 from rfl, hdl] at C1 C2
    generalize (if cA = 1 then A else A.map (·.add (1 * 1))) = A' at C1 S1
    generalize (if c5 = 1 then A5 else A5.map (·.add (1 * 1))) = A5' at C2 S2
    have K26 := Lib.hid (laws_sameInts.calls ((T.drop 1).length + 1) A' (cA - 1) (T.drop 1) A5' (c5 - 1) (T.drop 1) true w5.drew (by rw [hdl]; exact Kd.C_drewN C1 1) (by have := HCA.out; omega) (by rw [hdl]; exact Kd.C_drewN C2 1) (by omega) (same_spec (by rw [hdl]; have := HTL.out; have := ok_len HLV.out; omega)))
    rw [hdl] at K26
    have s1 := S1.out
    have s2 := S2.out
    have HB5D := Lib.hid (show Below w.heap.size w w5.drew from below_step HB5.out (below_drew (Below.refl _ _)))
    generalize T.length = nT at s1 s2 K26 ⊢
    clear hr5 l5 hC5 hb5 K28 C1 C2 hle hi3 hdl S1 S2 o0 o1 o2 o3 o4 o5 o6 o7
    go_upto_region 7 with (fail)
    refine start_ (n := 16) (S := fun w' => True) (ds := []) #[false, false, false, false, false, false, false, false, false, false, false, false, false, false, false, false] (by kernel_rfl) rfl rfl trivial (fun hHeld => ?_)
    refine pure_ (i := 0) (N := some 27) (v := ?_) (a' := ?_) #[true, false, false, false, false, false, false, false, false, false, false, false, false, false, false, false] rfl rfl (by kernel_rfl) (fun _ _ _ h => h) (Or.inl ⟨by rfl, ?_⟩) ?_ ?_
    rotate_left
    · intro w'
      go_simp
      with_reducible rfl
    rotate_left
    · simp only [Act.put, List.setIfInBounds_toArray, List.set_cons_zero, List.set_cons_succ, i64_w, i32_w]
      rfl
    refine pure_ (i := 1) (N := some 28) (v := ?_) (a' := ?_) #[true, true, false, false, false, false, false, false, false, false, false, false, false, false, false, false] rfl rfl (by kernel_rfl) (fun _ _ _ h => h) (Or.inl ⟨by rfl, ?_⟩) ?_ ?_
    rotate_left
    · intro w'
      go_simp
      with_reducible rfl
    rotate_left
    · simp only [Act.put, List.setIfInBounds_toArray, List.set_cons_zero, List.set_cons_succ, i64_w, i32_w]
      rfl
    refine pure_ (i := 2) (N := some 29) (v := ?_) (a' := ?_) #[true, true, true, false, false, false, false, false, false, false, false, false, false, false, false, false] rfl rfl (by kernel_rfl) (fun _ _ _ h => h) (Or.inl ⟨by rfl, ?_⟩) ?_ ?_
    rotate_left
    · intro w'
      go_simp
      with_reducible rfl
    rotate_left
    · simp only [Act.put, List.setIfInBounds_toArray, List.set_cons_zero, List.set_cons_succ, i64_w, i32_w]
      rfl
    refine pure_ (i := 3) (N := some 30) (v := ?_) (a' := ?_) #[true, true, true, true, false, false, false, false, false, false, false, false, false, false, false, false] rfl rfl (by kernel_rfl) (fun _ _ _ h => h) (Or.inl ⟨by rfl, ?_⟩) ?_ ?_
    rotate_left
    · intro w'
      go_simp
      with_reducible rfl
    rotate_left
    · simp only [Act.put, List.setIfInBounds_toArray, List.set_cons_zero, List.set_cons_succ, i64_w, i32_w]
      rfl
    refine pure_ (i := 4) (N := some 31) (v := ?_) (a' := ?_) #[true, true, true, true, true, false, false, false, false, false, false, false, false, false, false, false] rfl rfl (by kernel_rfl) (fun _ _ _ h => h) (Or.inl ⟨by rfl, ?_⟩) ?_ ?_
    rotate_left
    · intro w'
      go_simp
      with_reducible rfl
    rotate_left
    · simp only [Act.put, List.setIfInBounds_toArray, List.set_cons_zero, List.set_cons_succ, i64_w, i32_w]
      rfl
    refine pure_ (i := 5) (N := some 32) (v := ?_) (a' := ?_) #[true, true, true, true, true, true, false, false, false, false, false, false, false, false, false, false] rfl rfl (by kernel_rfl) (fun _ _ _ h => h) (Or.inl ⟨by rfl, ?_⟩) ?_ ?_
    rotate_left
    · intro w'
      go_simp
      with_reducible rfl
    rotate_left
    · simp only [Act.put, List.setIfInBounds_toArray, List.set_cons_zero, List.set_cons_succ, i64_w, i32_w]
      rfl
    refine pure_ (i := 6) (N := some 33) (v := ?_) (a' := ?_) #[true, true, true, true, true, true, true, false, false, false, false, false, false, false, false, false] rfl rfl (by kernel_rfl) (fun _ _ _ h => h) (Or.inl ⟨by rfl, ?_⟩) ?_ ?_
    rotate_left
    · intro w'
      go_simp
      with_reducible rfl
    rotate_left
    · simp only [Act.put, List.setIfInBounds_toArray, List.set_cons_zero, List.set_cons_succ, i64_w, i32_w]
      rfl
    refine pure_ (i := 7) (N := some 34) (v := ?_) (a' := ?_) #[true, true, true, true, true, true, true, true, false, false, false, false, false, false, false, false] rfl rfl (by kernel_rfl) (fun _ _ _ h => h) (Or.inl ⟨by rfl, ?_⟩) ?_ ?_
    rotate_left
    · intro w'
      go_simp
      with_reducible rfl
    rotate_left
    · simp only [Act.put, List.setIfInBounds_toArray, List.set_cons_zero, List.set_cons_succ, i64_w, i32_w]
      rfl
    refine pure_ (i := 8) (N := some 35) (v := ?_) (a' := ?_) #[true, true, true, true, true, true, true, true, true, false, false, false, false, false, false, false] rfl rfl (by kernel_rfl) (fun _ _ _ h => h) (Or.inl ⟨by rfl, ?_⟩) ?_ ?_
    rotate_left
    · intro w'
      go_simp
      with_reducible rfl
    rotate_left
    · simp only [Act.put, List.setIfInBounds_toArray, List.set_cons_zero, List.set_cons_succ, i64_w, i32_w]
      rfl
    refine pure_ (i := 9) (N := some 36) (v := ?_) (a' := ?_) #[true, true, true, true, true, true, true, true, true, true, false, false, false, false, false, false] rfl rfl (by kernel_rfl) (fun _ _ _ h => h) (Or.inl ⟨by rfl, ?_⟩) ?_ ?_
    rotate_left
    · intro w'
      go_simp
      with_reducible rfl
    rotate_left
    · simp only [Act.put, List.setIfInBounds_toArray, List.set_cons_zero, List.set_cons_succ, i64_w, i32_w]
      rfl
    refine one_ (i := 10) (N := some 37) #[true, true, true, true, true, true, true, true, true, true, true, false, false, false, false, false] rfl rfl (by kernel_rfl) (by decide) (fun K hK => ?_)
    refine goes_ Tryz.func26 (by kernel_rfl) rfl #[.slice A' (nT - 1) (cA - 1), .slice A5' (nT - 1) (c5 - 1)] (by rfl) rfl rfl (by simp only [List.map_toArray, List.map_cons, List.map_nil]; rfl) ?_
    with_reducible refine (K26.out).mono ?_
    rintro en w6 ⟨rfl, hd6⟩
    refine ⟨_, rfl, ?_⟩
    have HB6 := Lib.hid (below_step HB5D.out hd6.below)
    refine hK.out _ _ trivial (fun hHeld => ?_)
    clear hK K
    refine norm_ (a' := ?_) ?_ ?_
    rotate_left
    · show Act.put _ (some 37) _ = _
      simp only [Act.put, List.setIfInBounds_toArray, List.set_cons_zero, List.set_cons_succ, i64_w, i32_w]
      rfl
    refine pure_ (i := 11) (N := some 38) (v := ?_) (a' := ?_) #[true, true, true, true, true, true, true, true, true, true, true, true, false, false, false, false] rfl rfl (by kernel_rfl) (fun _ _ _ h => h) (Or.inl ⟨by rfl, ?_⟩) ?_ ?_
    rotate_left
    · intro w'
      go_simp
      with_reducible rfl
    rotate_left
    · simp only [Act.put, List.setIfInBounds_toArray, List.set_cons_zero, List.set_cons_succ, i64_w, i32_w]
      rfl
    refine pure_ (i := 12) (N := some 39) (v := ?_) (a' := ?_) #[true, true, true, true, true, true, true, true, true, true, true, true, true, false, false, false] rfl rfl (by kernel_rfl) (fun _ _ _ h => h) (Or.inl ⟨by rfl, ?_⟩) ?_ ?_
    rotate_left
    · intro w'
      go_simp
      with_reducible rfl
    rotate_left
    · simp only [Act.put, List.setIfInBounds_toArray, List.set_cons_zero, List.set_cons_succ, i64_w, i32_w]
      rfl
    refine one_ (i := 13) (N := some 40) #[true, true, true, true, true, true, true, true, true, true, true, true, true, true, false, false] rfl rfl (by kernel_rfl) (by decide) (fun K hK => ?_)
    refine goes_ Tryz.func24 (by kernel_rfl) rfl #[] (by rfl) rfl rfl (by simp) ?_
    with_reducible refine ((K24.out w6)).mono ?_
    rintro en w7 ⟨rfl, hb7⟩
    refine ⟨_, rfl, ?_⟩
    have HE := Lib.hid (below_step HB6.out hb7)
    refine hK.out _ _ trivial (fun hHeld => ?_)
    clear hK K
    refine norm_ (a' := ?_) ?_ ?_
    rotate_left
    · show Act.put _ (some 40) _ = _
      simp only [Act.put, List.setIfInBounds_toArray, List.set_cons_zero, List.set_cons_succ, i64_w, i32_w]
      rfl
    refine pure_ (i := 14) (N := some 41) (v := ?_) (a' := ?_) #[true, true, true, true, true, true, true, true, true, true, true, true, true, true, true, false] rfl rfl (by kernel_rfl) (fun _ _ _ h => h) (Or.inl ⟨by rfl, ?_⟩) ?_ ?_
    rotate_left
    · intro w'
      go_simp
      with_reducible rfl
    rotate_left
    · simp only [Act.put, List.setIfInBounds_toArray, List.set_cons_zero, List.set_cons_succ, i64_w, i32_w]
      rfl
    refine pure_ (i := 15) (N := some 4) (v := ?_) (a' := ?_) #[true, true, true, true, true, true, true, true, true, true, true, true, true, true, true, true] rfl rfl (by kernel_rfl) (fun _ _ _ h => h) (Or.inl ⟨by rfl, ?_⟩) ?_ ?_
    rotate_left
    · intro w'
      go_simp
      with_reducible rfl
    rotate_left
    · simp only [Act.put, List.setIfInBounds_toArray, List.set_cons_zero, List.set_cons_succ, i64_w, i32_w]
      rfl
    refine done_ (by kernel_rfl) ?_
    go_wp2_with fail
    rw [HQ.out]
    exact ⟨rfl, HE.out⟩
end Go.Proofs.YtnineoajmgneiaaGreat.fnTargetSizes
