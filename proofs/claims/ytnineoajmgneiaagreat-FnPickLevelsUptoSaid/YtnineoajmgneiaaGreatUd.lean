/- FnPickLevels: the walk. -/
import Derived.Test.YtnineoajmgneiaaGreatPd
namespace Go.Proofs.YtnineoajmgneiaaGreat.fnPickLevels
open Go.RowKit YtnineoajmgneiaaGreatW YtnineoajmgneiaaGreatW.PrintWords YtnineoajmgneiaaGreatW.PrintLast YtnineoajmgneiaaGreatW.PrintMore Fr L Ky Tm Lm It Tg Tp Tl Lk Lo
set_option linter.unusedVariables false
set_option linter.unusedSimpArgs false
theorem lev_iff {ls : List (List S68)} {m a b c d e f g : Int} (h : LvOk ls m a b c d e f g) (hts : ∀ l ∈ ls, ∀ t ∈ l, t.f1.size ≤ 2000000 ∧ t.f3.size ≤ 2000000) {i : Nat} {l : List S68} (hl : ls[i]? = some l) (h1 : 1 ≤ i) : decide (PrintWords.rd (blT ⟨m, a, b, c, d, e, f, g⟩ ((ls.map (·.map tbOf)).map total)).2 (i : Int) ≤ Tl.sizeOf l) = decide (Pk.ONE ≤ Pd.sc ls m a b c d e f g i) := by
  refine decide_eq_decide.2 ?_
  have hi := (List.getElem?_eq_some_iff.1 hl).1
  have h0 : ((ls.map (·.map tbOf)).getD 0 []).length ≤ 1000000 := by
    rw [List.getD_eq_getElem?_getD, List.getElem?_map]
    cases h0 : ls[0]? with
    | none => simp
    | some l =>
      have := (ok_mem h (List.mem_of_getElem? h0)).1
      simp only [Option.map_some, Option.getD_some, List.length_map]
      omega
  have hf := (Pk.score_facts (n0 := ((ls.map (·.map tbOf)).getD 0 []).length) (o := ⟨m, a, b, c, d, e, f, g⟩) (sz := (ls.map (·.map tbOf)).map total) (by have := h.opt.d; exact ⟨this.1, by show d ≤ _; omega⟩) h.opt.a.1 (sizes_ok (fun x hx => by
    obtain ⟨x0, hx0, rfl⟩ := List.mem_map.1 hx
    refine ⟨by rw [List.length_map]; have := (ok_mem h hx0).1; omega, fun t ht => ?_⟩
    obtain ⟨t0, h0, rfl⟩ := List.mem_map.1 ht
    exact (Bd.tb_ok (ok_in h hts x0 hx0 t0 h0)).2)) h0 (by have := h.opt.c; exact ⟨this.1, by show c ≤ _; omega⟩) (i := i) (by rw [List.length_map, List.length_map]; exact hi)).2
  rw [if_neg (by omega)] at hf
  have e2 : ((ls.map (·.map tbOf)).map total).getD i 0 = Tl.sizeOf l := by rw [← total_tb]; simp [List.getD_eq_getElem?_getD, hl]
  rw [e2] at hf
  unfold Pd.sc
  exact hf.symm
set_option maxRecDepth 100000 in
set_option maxHeartbeats 8000000 in
theorem calls {w : World} {A0 : Option Addr} {c0 : Nat} {ls : List (List S68)} {m a b c d e f g : Int} (hC : Kd.C (Kd.slice 68 k68) w A0 ls.length ls) (hc0 : ls.length ≤ c0) (hl0 : ls.length ≤ 2000000) (hl1 : ∀ l ∈ ls, l.length ≤ 2000000) (hts : ∀ l ∈ ls, ∀ t ∈ l, t.f1.size ≤ 2000000 ∧ t.f3.size ≤ 2000000) :
    Calls Tryz.prog 18 #[.slice A0 ls.length c0, .agg #[.int .i64 m, .int .i64 a, .int .i64 b, .int .i64 c, .int .i64 d, .int .i64 e, .int .i64 f, .int .i64 g]] w fun en w' => en = .returned (.bool true) ∧ Below w.heap.size w w' := by
  obtain ⟨Q, hQ⟩ : ∃ Q : Ending → World → Prop, Q = fun en w' => en = .returned (.bool true) ∧ Below w.heap.size w w' := ⟨_, rfl⟩
  rw [← hQ]
  have HQ := Lib.hid hQ
  have HC := Lib.hid hC
  have HC0 := Lib.hid hc0
  have HTS := Lib.hid hts
  have K22 := Lib.hid (fun W (hW : Below w.heap.size w W) => laws_zzFits6.calls (ls.length + 2000002) A0 c0 ls true W (Kd.C_below hC hW) hc0 (fits6 hl0 hl1 hts))
  have K23 := Lib.hid (fun W (hW : Below w.heap.size w W) => ok_calls (w := W) (m := m) (a := a) (b := b) (c := c) (d := d) (e := e) (f := f) (g := g) (Kd.C_below hC hW) hc0 (by omega) hts)
  have K24 := Lib.hid (fun W => Lw.work_calls (w := W))
  clear hQ hC hc0 hts hl0 hl1
  go_enter Tryz.func18, Tryz.ntmps18
  go_upto_region 1 with (fail)
  obtain ⟨w1, hw1⟩ : ∃ w1, w1 = w.alloc (.cells #[.int .i64 m, .int .i64 a, .int .i64 b, .int .i64 c, .int .i64 d, .int .i64 e, .int .i64 f, .int .i64 g] 24) := ⟨_, rfl⟩
  rw [← hw1]
  obtain ⟨b3, hb3⟩ : ∃ b3, b3 = w.heap.size := ⟨_, rfl⟩
  rw [← hb3]
  have HB1 := Lib.hid (show Below w.heap.size w w1 by rw [hw1]; exact below_alloc (Below.refl _ _) _)
  have HO1 := Lib.hid (show w1.heap[b3]? = some (.cells #[.int .i64 m, .int .i64 a, .int .i64 b, .int .i64 c, .int .i64 d, .int .i64 e, .int .i64 f, .int .i64 g] 24 (0, 0)) by rw [hw1, hb3]; exact blk_new w _)
  clear hw1 hb3
  go_wp2_with fail
  refine (K22.out w1 HB1.out).mono ?_
  rintro en w2 ⟨rfl, hb2⟩
  have HB2 := Lib.hid (below_step HB1.out hb2)
  have HO2 := Lib.hid ((hb2.block _ (blk_lt HO1.out)).trans HO1.out)
  clear hb2 K22
  have o0 := blk_cell HO2.out 0
  have o1 := blk_cell HO2.out 1
  have o2 := blk_cell HO2.out 2
  have o3 := blk_cell HO2.out 3
  have o4 := blk_cell HO2.out 4
  have o5 := blk_cell HO2.out 5
  have o6 := blk_cell HO2.out 6
  have o7 := blk_cell HO2.out 7
  go_wp2_with fail
  refine (K23.out w2 HB2.out).mono ?_
  rintro en w3 ⟨r, rfl, hok, hb3⟩
  have HB3 := Lib.hid (below_step HB2.out hb3)
  have HO3 := Lib.hid ((hb3.block _ (blk_lt HO2.out)).trans HO2.out)
  have HOK := Lib.hid hok
  clear hok hb3 K23 o0 o1 o2 o3 o4 o5 o6 o7
  cases r with
  | false =>
    go_wp2_with fail
    refine (K24.out w3).mono ?_
    rintro en w4 ⟨rfl, hb4⟩
    have HB4 := Lib.hid (below_step HB3.out hb4)
    clear hb4
    go_wp2_with fail
    rw [HQ.out]
    exact ⟨rfl, HB4.out⟩
  | true =>
    have HLV := Lib.hid (HOK.out rfl)
    have o0 := blk_cell HO3.out 0
    have o1 := blk_cell HO3.out 1
    have o2 := blk_cell HO3.out 2
    have o3 := blk_cell HO3.out 3
    have o4 := blk_cell HO3.out 4
    have o5 := blk_cell HO3.out 5
    have o6 := blk_cell HO3.out 6
    have o7 := blk_cell HO3.out 7
    have K28 := Lib.hid (spec_Wanted.calls 60000 A0 c0 ls m a b c d e f g _ w3 (Kd.C_below HC.out HB3.out) HC0.out (wanted_spec HLV.out.opt.a.1 (by have := ok_len HLV.out; omega) (by have := ok_len HLV.out; omega) (fun l hl => by have := (ok_mem HLV.out hl).1; omega) (ok_in HLV.out HTS.out) (Nat.le_refl _)))
    go_wp2_with fail
    refine K28.out.mono ?_
    rintro en w4 ⟨v5, rfl, hr5, hb4⟩
    obtain ⟨T, hT⟩ : ∃ T, T = (blT ⟨m, a, b, c, d, e, f, g⟩ ((ls.map (·.map tbOf)).map total)).2 := ⟨_, rfl⟩
    rw [← hT] at hr5
    have HT := Lib.hid hT
    have HTL := Lib.hid (show T.length = ls.length by rw [hT, T_len, List.length_map, List.length_map])
    obtain ⟨A5, c5, rfl⟩ := Kd.R_slice hr5
    obtain ⟨-, l5, hC5⟩ := Kd.R_reads' hr5
    have HC5 := Lib.hid hC5
    have HB4 := Lib.hid (below_step HB3.out hb4)
    have HO4 := Lib.hid ((hb4.block _ (blk_lt HO3.out)).trans HO3.out)
    clear hT hr5 l5 hC5 hb4 K28 o0 o1 o2 o3 o4 o5 o6 o7
    generalize T.length = nT at HC5 HTL ⊢
    obtain ⟨n, hn⟩ : ∃ n, ls.length = n + 1 := ⟨ls.length - 1, by have := ok_len HLV.out; omega⟩
    have HN := Lib.hid (show 1 ≤ n ∧ n ≤ 7 by have := ok_len HLV.out; omega)
    have HNE := Lib.hid hn
    clear hn
    go_wp2_with fail
    go_loopg [6] ls.length (fun kq v6 wr => Below w4.heap.size w4 wr ∧ ∃ i : Nat, v6 = .int .i64 (i : Int) ∧ Aside0 (1 ≤ i ∧ i ≤ n ∧ n ≤ i + kq))
    case atStart => exact ⟨Below.refl _ _, 1, rfl, ⟨by omega, HN.out.1, by have := HNE.out; omega⟩⟩
    case round =>
      obtain ⟨hbr, i, rfl, HI⟩ := hrel
      have HBR := Lib.hid hbr
      have HBT := Lib.hid (below_step HB4.out hbr)
      have HOR := Lib.hid ((hbr.block _ (blk_lt HO4.out)).trans HO4.out)
      have s1 : IntKind.i64.wrap ((n : Int) + 1 - 1) = (n : Int) := by rw [IntWalk.i64_in _ (by have := HN.out; omega)]; omega
      have s2 : wrap64 (n : Int) = (n : Int) := by have := HN.out; unfold wrap64; omega
      have s3 : wrap64 ((ls.length : Int) - 1) = (n : Int) := by rw [HNE.out]; have := HN.out; unfold wrap64; omega
      have s4 : IntKind.i64.wrap ((ls.length : Int) - 1) = (n : Int) := by rw [HNE.out]; exact s1
      clear hbr
      by_cases hi : i < n
      · have d1 : decide ((i : Int) < (n : Int)) = true := decide_eq_true (by omega)
        have dn : i < n := hi
        have dL : i < ls.length := by have := HNE.out; omega
        have dT : i < nT := by have := HTL.out; have := HNE.out; omega
        have HGK := Lib.hid (show gk - 1 < gk ∧ 1 ≤ i + 1 ∧ i + 1 ≤ n ∧ n ≤ i + 1 + (gk - 1) by have := HI.out; omega)
        have HWR := Lib.hid (show Value.int IntKind.i64 (wrap64 ((i : Int) + 1)) = Value.int IntKind.i64 ((i + 1 : Nat) : Int) by rw [show wrap64 ((i : Int) + 1) = ((i + 1 : Nat) : Int) by have := HN.out; unfold wrap64; omega])
        obtain ⟨ad, A1, c1, eA, x0, hc1, hC1⟩ := at_L3 (Kd.C_below HC.out HBT.out) (i : Int) (by omega) (by omega)
        subst eA
        obtain ⟨l, hl⟩ : ∃ l, l = rd_L3 ls (i : Int) := ⟨_, rfl⟩
        rw [← hl] at x0 hc1 hC1
        rw [show ((i : Int)).toNat = i from rfl] at x0
        have hls : ls[i]? = some l := by rw [hl]; simp [rd_L3, dL]
        obtain ⟨ad5, eA5, x5⟩ := Kd.at_int (Kd.C_below HC5.out HBR.out) (i : Int) (by omega) (by omega)
        subst eA5
        rw [show ((i : Int)).toNat = i from rfl] at x5
        obtain ⟨ti, hti⟩ : ∃ t, t = PrintWords.rd T (i : Int) := ⟨_, rfl⟩
        rw [← hti] at x5
        obtain ⟨D, hD⟩ : ∃ D, decide (ti ≤ Tl.sizeOf l) = D := ⟨_, rfl⟩
        have K49 := Lib.hid (Pd.picked_calls (w := wr.drew) (i := i) (r := D) (Kd.C_below HC.out (below_step HBT.out (below_drew (Below.refl _ _)))) HC0.out HLV.out HTS.out (by have := HNE.out; omega) (by rw [← hD, hti, HT.out]; exact lev_iff HLV.out HTS.out hls HI.out.1))
        have K50 := Lib.hid (fun W (hW : Below wr.heap.size wr W) => spec_Size.calls (l.length + 1) A1 c1 l (Tl.sizeOf l) W (Kd.C_below hC1 hW) hc1 (size_spec (by have := (ok_mem HLV.out (List.mem_of_getElem? hls)).1; omega) (ok_in HLV.out HTS.out l (List.mem_of_getElem? hls)) (Nat.le_refl _)))
        have o0 := blk_cell HOR.out 0
        have o1 := blk_cell HOR.out 1
        have o2 := blk_cell HOR.out 2
        have o3 := blk_cell HOR.out 3
        have o4 := blk_cell HOR.out 4
        have o5 := blk_cell HOR.out 5
        have o6 := blk_cell HOR.out 6
        have o7 := blk_cell HOR.out 7
        clear hl hls hti hi HI hc1 hC1
        go_upto_region 9 with (fail)
        refine start_ (n := 15) (S := fun w' => w'.cell? ⟨b3, 0, none⟩ = some (.int .i64 m) ∧ w'.cell? ⟨b3, 1, none⟩ = some (.int .i64 a) ∧ w'.cell? ⟨b3, 2, none⟩ = some (.int .i64 b) ∧ w'.cell? ⟨b3, 3, none⟩ = some (.int .i64 c) ∧ w'.cell? ⟨b3, 4, none⟩ = some (.int .i64 d) ∧ w'.cell? ⟨b3, 5, none⟩ = some (.int .i64 e) ∧ w'.cell? ⟨b3, 6, none⟩ = some (.int .i64 f) ∧ w'.cell? ⟨b3, 7, none⟩ = some (.int .i64 g) ∧ w'.cell? (ad.add i) = some (.slice A1 l.length c1) ∧ w'.cell? (ad5.add i) = some (.int .i64 ti)) (ds := []) #[false, false, false, false, false, false, false, false, false, false, false, false, false, false, false] (by kernel_rfl) rfl rfl ⟨o0, o1, o2, o3, o4, o5, o6, o7, x0, x5⟩ (fun hHeld => ?_)
        refine pure_ (i := 0) (N := some 25) (v := ?_) (a' := ?_) #[true, false, false, false, false, false, false, false, false, false, false, false, false, false, false] rfl rfl (by kernel_rfl) (fun _ _ _ h => h) (Or.inl ⟨by rfl, ?_⟩) ?_ ?_
        rotate_left
        · intro w'
          go_simp
          with_reducible rfl
        rotate_left
        · simp only [Act.put, List.setIfInBounds_toArray, List.set_cons_zero, List.set_cons_succ, i64_w, i32_w]
          rfl
        refine pure_ (i := 2) (N := some 27) (v := ?_) (a' := ?_) #[true, false, true, false, false, false, false, false, false, false, false, false, false, false, false] rfl rfl (by kernel_rfl) (fun _ _ _ h => h) (Or.inl ⟨by rfl, ?_⟩) ?_ ?_
        rotate_left
        · intro w'
          go_simp
          with_reducible rfl
        rotate_left
        · simp only [Act.put, List.setIfInBounds_toArray, List.set_cons_zero, List.set_cons_succ, i64_w, i32_w]
          rfl
        refine pure_ (i := 4) (N := some 29) (v := ?_) (a' := ?_) #[true, false, true, false, true, false, false, false, false, false, false, false, false, false, false] rfl rfl (by kernel_rfl) (fun _ _ _ h => h) (Or.inl ⟨by rfl, ?_⟩) ?_ ?_
        rotate_left
        · intro w'
          go_simp
          with_reducible rfl
        rotate_left
        · simp only [Act.put, List.setIfInBounds_toArray, List.set_cons_zero, List.set_cons_succ, i64_w, i32_w]
          rfl
        refine pure_ (i := 5) (N := some 30) (v := ?_) (a' := ?_) #[true, false, true, false, true, true, false, false, false, false, false, false, false, false, false] rfl rfl (by kernel_rfl) (fun _ _ _ h => h) (Or.inl ⟨by rfl, ?_⟩) ?_ ?_
        rotate_left
        · intro w'
          go_simp
          with_reducible rfl
        rotate_left
        · simp only [Act.put, List.setIfInBounds_toArray, List.set_cons_zero, List.set_cons_succ, i64_w, i32_w]
          rfl
        refine pure_ (i := 6) (N := some 31) (v := ?_) (a' := ?_) #[true, false, true, false, true, true, true, false, false, false, false, false, false, false, false] rfl rfl (by kernel_rfl) (fun _ _ _ h => h) (Or.inl ⟨by rfl, ?_⟩) ?_ ?_
        rotate_left
        · intro w'
          go_simp
          with_reducible rfl
        rotate_left
        · simp only [Act.put, List.setIfInBounds_toArray, List.set_cons_zero, List.set_cons_succ, i64_w, i32_w]
          rfl
        refine pure_ (i := 9) (N := some 34) (v := ?_) (a' := ?_) #[true, false, true, false, true, true, true, false, false, true, false, false, false, false, false] rfl rfl (by kernel_rfl) (fun _ _ _ h => h) (Or.inl ⟨by rfl, ?_⟩) ?_ ?_
        rotate_left
        · intro w'
          go_simp
          with_reducible rfl
        rotate_left
        · simp only [Act.put, List.setIfInBounds_toArray, List.set_cons_zero, List.set_cons_succ, i64_w, i32_w]
          rfl
        refine pure_ (i := 10) (N := some 35) (v := ?_) (a' := ?_) #[true, false, true, false, true, true, true, false, false, true, true, false, false, false, false] rfl rfl (by kernel_rfl) (fun _ _ _ h => h) (Or.inl ⟨by rfl, ?_⟩) ?_ ?_
        rotate_left
        · intro w'
          go_simp
          with_reducible rfl
        rotate_left
        · simp only [Act.put, List.setIfInBounds_toArray, List.set_cons_zero, List.set_cons_succ, i64_w, i32_w]
          rfl
        refine pure_ (i := 11) (N := some 36) (v := ?_) (a' := ?_) #[true, false, true, false, true, true, true, false, false, true, true, true, false, false, false] rfl rfl (by kernel_rfl) (fun _ _ _ h => h) (Or.inl ⟨by rfl, ?_⟩) ?_ ?_
        rotate_left
        · intro w'
          go_simp
          with_reducible rfl
        rotate_left
        · simp only [Act.put, List.setIfInBounds_toArray, List.set_cons_zero, List.set_cons_succ, i64_w, i32_w]
          rfl
        refine take_ (i := 1) (N := some 26) (v := ?_) (a' := ?_) #[true, true, true, false, true, true, true, false, false, true, true, true, false, false, false] rfl rfl (by kernel_rfl) (fun _ _ _ h => h) (Or.inl ⟨by rfl, ?_⟩) hHeld ?_ ?_
        rotate_left
        · rintro w' ⟨s0, s1, s2, s3, s4, s5, s6, s7, s8, s9⟩
          go_simp
          with_reducible rfl
        rotate_left
        · simp only [Act.put, List.setIfInBounds_toArray, List.set_cons_zero, List.set_cons_succ, i64_w, i32_w]
          rfl
        refine take_ (i := 7) (N := some 32) (v := ?_) (a' := ?_) #[true, true, true, false, true, true, true, true, false, true, true, true, false, false, false] rfl rfl (by kernel_rfl) (fun _ _ _ h => h) (Or.inl ⟨by rfl, ?_⟩) hHeld ?_ ?_
        rotate_left
        · rintro w' ⟨s0, s1, s2, s3, s4, s5, s6, s7, s8, s9⟩
          go_simp
          with_reducible rfl
        rotate_left
        · simp only [Act.put, List.setIfInBounds_toArray, List.set_cons_zero, List.set_cons_succ, i64_w, i32_w]
          rfl
        refine take_ (i := 12) (N := some 37) (v := ?_) (a' := ?_) #[true, true, true, false, true, true, true, true, false, true, true, true, true, false, false] rfl rfl (by kernel_rfl) (fun _ _ _ h => h) (Or.inl ⟨by rfl, ?_⟩) hHeld ?_ ?_
        rotate_left
        · rintro w' ⟨s0, s1, s2, s3, s4, s5, s6, s7, s8, s9⟩
          go_simp
          with_reducible rfl
        rotate_left
        · simp only [Act.put, List.setIfInBounds_toArray, List.set_cons_zero, List.set_cons_succ, i64_w, i32_w]
          rfl
        refine one_ (i := 3) (N := some 28) #[true, true, true, true, true, true, true, true, false, true, true, true, true, false, false] rfl rfl (by kernel_rfl) (by decide) (fun K hK => ?_)
        refine goes_ Tryz.func49 (by kernel_rfl) rfl #[.slice (some ad) ls.length c0, .agg #[.int .i64 m, .int .i64 a, .int .i64 b, .int .i64 c, .int .i64 d, .int .i64 e, .int .i64 f, .int .i64 g], .int .i64 (i : Int)] (by rfl) rfl rfl (by simp only [List.map_toArray, List.map_cons, List.map_nil]; rfl) ?_
        with_reducible refine (K49.out).mono ?_
        rintro en w8 ⟨rfl, hb8⟩
        refine ⟨_, rfl, ?_⟩
        have HBD := Lib.hid (show Below wr.heap.size wr w8 from below_step (below_drew (Below.refl _ _)) hb8)
        refine hK.out _ _ ⟨(HBD.out.cell (World.block_lt_of_cell? wr _ o0)).trans o0, (HBD.out.cell (World.block_lt_of_cell? wr _ o1)).trans o1, (HBD.out.cell (World.block_lt_of_cell? wr _ o2)).trans o2, (HBD.out.cell (World.block_lt_of_cell? wr _ o3)).trans o3, (HBD.out.cell (World.block_lt_of_cell? wr _ o4)).trans o4, (HBD.out.cell (World.block_lt_of_cell? wr _ o5)).trans o5, (HBD.out.cell (World.block_lt_of_cell? wr _ o6)).trans o6, (HBD.out.cell (World.block_lt_of_cell? wr _ o7)).trans o7, (HBD.out.cell (World.block_lt_of_cell? wr _ x0)).trans x0, (HBD.out.cell (World.block_lt_of_cell? wr _ x5)).trans x5⟩ (fun hHeld => ?_)
        clear hK K
        refine norm_ (a' := ?_) ?_ ?_
        rotate_left
        · show Act.put _ (some 28) _ = _
          simp only [Act.put, List.setIfInBounds_toArray, List.set_cons_zero, List.set_cons_succ, i64_w, i32_w]
          rfl
        refine one_ (i := 8) (N := some 33) #[true, true, true, true, true, true, true, true, true, true, true, true, true, false, false] rfl rfl (by kernel_rfl) (by decide) (fun K hK => ?_)
        refine goes_ Tryz.func50 (by kernel_rfl) rfl #[.slice A1 l.length c1] (by rfl) rfl rfl (by simp only [List.map_toArray, List.map_cons, List.map_nil]; rfl) ?_
        with_reducible refine ((K50.out w8 HBD.out)).mono ?_
        rintro en w9 ⟨rfl, hb9⟩
        refine ⟨_, rfl, ?_⟩
        have HBE := Lib.hid (show Below wr.heap.size wr w9 from below_step HBD.out hb9)
        refine hK.out _ _ ⟨(HBE.out.cell (World.block_lt_of_cell? wr _ o0)).trans o0, (HBE.out.cell (World.block_lt_of_cell? wr _ o1)).trans o1, (HBE.out.cell (World.block_lt_of_cell? wr _ o2)).trans o2, (HBE.out.cell (World.block_lt_of_cell? wr _ o3)).trans o3, (HBE.out.cell (World.block_lt_of_cell? wr _ o4)).trans o4, (HBE.out.cell (World.block_lt_of_cell? wr _ o5)).trans o5, (HBE.out.cell (World.block_lt_of_cell? wr _ o6)).trans o6, (HBE.out.cell (World.block_lt_of_cell? wr _ o7)).trans o7, (HBE.out.cell (World.block_lt_of_cell? wr _ x0)).trans x0, (HBE.out.cell (World.block_lt_of_cell? wr _ x5)).trans x5⟩ (fun hHeld => ?_)
        clear hK K
        refine norm_ (a' := ?_) ?_ ?_
        rotate_left
        · show Act.put _ (some 33) _ = _
          simp only [Act.put, List.setIfInBounds_toArray, List.set_cons_zero, List.set_cons_succ, i64_w, i32_w]
          rfl
        refine pure_ (i := 13) (N := some 38) (v := ?_) (a' := ?_) #[true, true, true, true, true, true, true, true, true, true, true, true, true, true, false] rfl rfl (by kernel_rfl) (fun _ _ _ h => h) (Or.inl ⟨by rfl, ?_⟩) ?_ ?_
        rotate_left
        · intro w'
          go_simp
          with_reducible rfl
        rotate_left
        · simp only [Act.put, List.setIfInBounds_toArray, List.set_cons_zero, List.set_cons_succ, i64_w, i32_w]
          rfl
        refine pure_ (i := 14) (N := some 39) (v := ?_) (a' := ?_) #[true, true, true, true, true, true, true, true, true, true, true, true, true, true, true] rfl rfl (by kernel_rfl) (fun _ _ _ h => h) (Or.inl ⟨by rfl, ?_⟩) ?_ ?_
        rotate_left
        · intro w'
          go_simp
          with_reducible rfl
        rotate_left
        · simp only [Act.put, List.setIfInBounds_toArray, List.set_cons_zero, List.set_cons_succ, i64_w, i32_w]
          rfl
        refine done_ (by kernel_rfl) ?_
        go_wp2_with fail
        go_roundg (gk - 1)
        case measure => exact HGK.out.1
        case rel => exact ⟨below_step HBR.out HBE.out, i + 1, HWR.out, ⟨HGK.out.2⟩⟩
      · have d1 : decide ((i : Int) < (n : Int)) = false := decide_eq_false (by omega)
        have dn : decide (i < n) = false := decide_eq_false hi
        clear hi HI
        go_wp2_with fail
        refine (K24.out wr).mono ?_
        rintro en w7 ⟨rfl, hb7⟩
        have HB7 := Lib.hid (below_step HBT.out hb7)
        clear hb7
        go_wp2_with fail
        rw [HQ.out]
        exact ⟨rfl, HB7.out⟩
end Go.Proofs.YtnineoajmgneiaaGreat.fnPickLevels
