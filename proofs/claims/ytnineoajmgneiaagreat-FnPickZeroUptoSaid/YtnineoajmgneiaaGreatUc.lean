/- FnPickZero: the walk. -/
import Derived.Test.YtnineoajmgneiaaGreatPd
namespace Go.Proofs.YtnineoajmgneiaaGreat.fnPickZero
open Go.RowKit YtnineoajmgneiaaGreatW YtnineoajmgneiaaGreatW.PrintWords YtnineoajmgneiaaGreatW.PrintLast YtnineoajmgneiaaGreatW.PrintMore Fr L Ky Tm Lm It Tg Tp Tl Lk Lo
set_option linter.unusedVariables false
set_option linter.unusedSimpArgs false
theorem zero_iff {ls : List (List S68)} {m a b c d e f g : Int} (h : LvOk ls m a b c d e f g) (hts : ∀ l ∈ ls, ∀ t ∈ l, t.f1.size ≤ 2000000 ∧ t.f3.size ≤ 2000000) {l : List S68} (hl : ls[0]? = some l) : decide (c ≤ (l.length : Int)) = decide (Pk.ONE ≤ Pd.sc ls m a b c d e f g 0) := by
  refine decide_eq_decide.2 ?_
  have h2 := ok_len h
  have e0 : (ls.map (·.map tbOf)).getD 0 [] = l.map tbOf := by simp [List.getD_eq_getElem?_getD, hl]
  have hlen := (ok_mem h (List.mem_of_getElem? hl)).1
  have hf := (Pk.score_facts (n0 := (l.map tbOf).length) (o := ⟨m, a, b, c, d, e, f, g⟩) (sz := (ls.map (·.map tbOf)).map total) (by have := h.opt.d; exact ⟨this.1, by show d ≤ _; omega⟩) h.opt.a.1 (sizes_ok (fun x hx => by
    obtain ⟨x0, hx0, rfl⟩ := List.mem_map.1 hx
    refine ⟨by rw [List.length_map]; have := (ok_mem h hx0).1; omega, fun t ht => ?_⟩
    obtain ⟨t0, h0, rfl⟩ := List.mem_map.1 ht
    exact (Bd.tb_ok (ok_in h hts x0 hx0 t0 h0)).2)) (by rw [List.length_map]; omega) (by have := h.opt.c; exact ⟨this.1, by show c ≤ _; omega⟩) (i := 0) (by rw [List.length_map, List.length_map]; omega)).2
  rw [if_pos rfl, List.length_map] at hf
  unfold Pd.sc
  rw [e0, List.length_map]
  exact hf.symm
set_option maxRecDepth 100000 in
set_option maxHeartbeats 8000000 in
theorem calls {w : World} {A0 : Option Addr} {c0 : Nat} {ls : List (List S68)} {m a b c d e f g : Int} (hC : Kd.C (Kd.slice 68 k68) w A0 ls.length ls) (hc0 : ls.length ≤ c0) (hl0 : ls.length ≤ 2000000) (hl1 : ∀ l ∈ ls, l.length ≤ 2000000) (hts : ∀ l ∈ ls, ∀ t ∈ l, t.f1.size ≤ 2000000 ∧ t.f3.size ≤ 2000000) :
    Calls Tryz.prog 20 #[.slice A0 ls.length c0, .agg #[.int .i64 m, .int .i64 a, .int .i64 b, .int .i64 c, .int .i64 d, .int .i64 e, .int .i64 f, .int .i64 g]] w fun en w' => en = .returned (.bool true) ∧ Below w.heap.size w w' := by
  obtain ⟨Q, hQ⟩ : ∃ Q : Ending → World → Prop, Q = fun en w' => en = .returned (.bool true) ∧ Below w.heap.size w w' := ⟨_, rfl⟩
  rw [← hQ]
  have HQ := Lib.hid hQ
  have HC := Lib.hid hC
  have HC0 := Lib.hid hc0
  have HTS := Lib.hid hts
  have K22 := Lib.hid (fun W (hW : Below w.heap.size w W) => laws_zzFits6.calls (ls.length + 2000002) A0 c0 ls true W (Kd.C_below hC hW) hc0 (fits6 hl0 hl1 hts))
  have K23 := Lib.hid (fun W (hW : Below w.heap.size w W) => ok_calls (w := W) (m := m) (a := a) (b := b) (c := c) (d := d) (e := e) (f := f) (g := g) (Kd.C_below hC hW) hc0 (by omega) hts)
  have K24 := Lib.hid (fun W => Lw.work_calls (w := W))
  clear hQ hC hc0 hts hl0 hl1
  go_enter Tryz.func20, Tryz.ntmps20
  go_upto_region 1 with (fail)
  obtain ⟨w1, hw1⟩ : ∃ w1, w1 = w.alloc (.cells #[.int .i64 m, .int .i64 a, .int .i64 b, .int .i64 c, .int .i64 d, .int .i64 e, .int .i64 f, .int .i64 g] 24) := ⟨_, rfl⟩
  rw [← hw1]
  obtain ⟨b3, hb3⟩ : ∃ b3, b3 = w.heap.size := ⟨_, rfl⟩
  rw [← hb3]
  have HB1 := Lib.hid (show Below w.heap.size w w1 by rw [hw1]; exact below_alloc (Below.refl _ _) _)
  have HO1 := Lib.hid (show w1.heap[b3]? = some (.cells #[.int .i64 m, .int .i64 a, .int .i64 b, .int .i64 c, .int .i64 d, .int .i64 e, .int .i64 f, .int .i64 g] 24 (0, 0)) by rw [hw1, hb3]; exact blk_new w _)
  clear hw1 hb3
  go_wp2_with fail
  refine (K22.out w1 HB1.out).mono ?_
  rintro en w2 ⟨rfl, hb2⟩
  have HB2 := Lib.hid (below_step HB1.out hb2)
  have HO2 := Lib.hid ((hb2.block _ (blk_lt HO1.out)).trans HO1.out)
  clear hb2 K22
  have o0 := blk_cell HO2.out 0
  have o1 := blk_cell HO2.out 1
  have o2 := blk_cell HO2.out 2
  have o3 := blk_cell HO2.out 3
  have o4 := blk_cell HO2.out 4
  have o5 := blk_cell HO2.out 5
  have o6 := blk_cell HO2.out 6
  have o7 := blk_cell HO2.out 7
  go_wp2_with fail
  refine (K23.out w2 HB2.out).mono ?_
  rintro en w3 ⟨r, rfl, hok, hb3⟩
  have HB3 := Lib.hid (below_step HB2.out hb3)
  have HO3 := Lib.hid ((hb3.block _ (blk_lt HO2.out)).trans HO2.out)
  have HOK := Lib.hid hok
  clear hok hb3 K23 o0 o1 o2 o3 o4 o5 o6 o7
  cases r with
  | false =>
    go_wp2_with fail
    refine (K24.out w3).mono ?_
    rintro en w4 ⟨rfl, hb4⟩
    have HB4 := Lib.hid (below_step HB3.out hb4)
    clear hb4
    go_wp2_with fail
    rw [HQ.out]
    exact ⟨rfl, HB4.out⟩
  | true =>
    have HLV := Lib.hid (HOK.out rfl)
    have o0 := blk_cell HO3.out 0
    have o1 := blk_cell HO3.out 1
    have o2 := blk_cell HO3.out 2
    have o3 := blk_cell HO3.out 3
    have o4 := blk_cell HO3.out 4
    have o5 := blk_cell HO3.out 5
    have o6 := blk_cell HO3.out 6
    have o7 := blk_cell HO3.out 7
    have h2 := ok_len HLV.out
    obtain ⟨ad, A1, c1, eA, x0, -, -⟩ := at_L3 (Kd.C_below HC.out HB3.out) 0 (by omega) (by omega)
    subst eA
    obtain ⟨l, hl⟩ : ∃ l, l = rd_L3 ls 0 := ⟨_, rfl⟩
    rw [← hl, show ((0 : Int)).toNat = 0 from rfl, Addr.add_zero'] at x0
    have hls : ls[0]? = some l := by rw [hl]; simp [rd_L3, show 0 < ls.length by omega]
    obtain ⟨D, hD⟩ : ∃ D, decide (c ≤ (l.length : Int)) = D := ⟨_, rfl⟩
    have K49 := Lib.hid (Pd.picked_calls (w := w3.drew) (i := 0) (r := D) (Kd.C_below HC.out (below_step HB3.out (below_drew (Below.refl _ _)))) HC0.out HLV.out HTS.out (by omega) (by rw [← hD]; exact zero_iff HLV.out HTS.out hls))
    rw [show ((0 : Nat) : Int) = 0 from rfl] at K49
    have dL : 0 < ls.length := by omega
    clear hl hls h2
    go_upto_region 5 with (fail)
    refine start_ (n := 15) (S := fun w' => w'.cell? ⟨b3, 0, none⟩ = some (.int .i64 m) ∧ w'.cell? ⟨b3, 1, none⟩ = some (.int .i64 a) ∧ w'.cell? ⟨b3, 2, none⟩ = some (.int .i64 b) ∧ w'.cell? ⟨b3, 3, none⟩ = some (.int .i64 c) ∧ w'.cell? ⟨b3, 4, none⟩ = some (.int .i64 d) ∧ w'.cell? ⟨b3, 5, none⟩ = some (.int .i64 e) ∧ w'.cell? ⟨b3, 6, none⟩ = some (.int .i64 f) ∧ w'.cell? ⟨b3, 7, none⟩ = some (.int .i64 g) ∧ w'.cell? ad = some (.slice A1 l.length c1)) (ds := []) #[false, false, false, false, false, false, false, false, false, false, false, false, false, false, false] (by kernel_rfl) rfl rfl ⟨o0, o1, o2, o3, o4, o5, o6, o7, x0⟩ (fun hHeld => ?_)
    refine pure_ (i := 0) (N := some 13) (v := ?_) (a' := ?_) #[true, false, false, false, false, false, false, false, false, false, false, false, false, false, false] rfl rfl (by kernel_rfl) (fun _ _ _ h => h) (Or.inl ⟨by rfl, ?_⟩) ?_ ?_
    rotate_left
    · intro w'
      go_simp
      with_reducible rfl
    rotate_left
    · simp only [Act.put, List.setIfInBounds_toArray, List.set_cons_zero, List.set_cons_succ, i64_w, i32_w]
      rfl
    refine pure_ (i := 3) (N := some 16) (v := ?_) (a' := ?_) #[true, false, false, true, false, false, false, false, false, false, false, false, false, false, false] rfl rfl (by kernel_rfl) (fun _ _ _ h => h) (Or.inl ⟨by rfl, ?_⟩) ?_ ?_
    rotate_left
    · intro w'
      go_simp
      with_reducible rfl
    rotate_left
    · simp only [Act.put, List.setIfInBounds_toArray, List.set_cons_zero, List.set_cons_succ, i64_w, i32_w]
      rfl
    refine pure_ (i := 4) (N := some 17) (v := ?_) (a' := ?_) #[true, false, false, true, true, false, false, false, false, false, false, false, false, false, false] rfl rfl (by kernel_rfl) (fun _ _ _ h => h) (Or.inl ⟨by rfl, ?_⟩) ?_ ?_
    rotate_left
    · intro w'
      go_simp
      with_reducible rfl
    rotate_left
    · simp only [Act.put, List.setIfInBounds_toArray, List.set_cons_zero, List.set_cons_succ, i64_w, i32_w]
      rfl
    refine pure_ (i := 7) (N := some 20) (v := ?_) (a' := ?_) #[true, false, false, true, true, false, false, true, false, false, false, false, false, false, false] rfl rfl (by kernel_rfl) (fun _ _ _ h => h) (Or.inl ⟨by rfl, ?_⟩) ?_ ?_
    rotate_left
    · intro w'
      go_simp
      with_reducible rfl
    rotate_left
    · simp only [Act.put, List.setIfInBounds_toArray, List.set_cons_zero, List.set_cons_succ, i64_w, i32_w]
      rfl
    refine take_ (i := 1) (N := some 14) (v := ?_) (a' := ?_) #[true, true, false, true, true, false, false, true, false, false, false, false, false, false, false] rfl rfl (by kernel_rfl) (fun _ _ _ h => h) (Or.inl ⟨by rfl, ?_⟩) hHeld ?_ ?_
    rotate_left
    · rintro w' ⟨s0, s1, s2, s3, s4, s5, s6, s7, s8⟩
      go_simp
      with_reducible rfl
    rotate_left
    · simp only [Act.put, List.setIfInBounds_toArray, List.set_cons_zero, List.set_cons_succ, i64_w, i32_w]
      rfl
    refine take_ (i := 5) (N := some 18) (v := ?_) (a' := ?_) #[true, true, false, true, true, true, false, true, false, false, false, false, false, false, false] rfl rfl (by kernel_rfl) (fun _ _ _ h => h) (Or.inl ⟨by rfl, ?_⟩) hHeld ?_ ?_
    rotate_left
    · rintro w' ⟨s0, s1, s2, s3, s4, s5, s6, s7, s8⟩
      go_simp
      with_reducible rfl
    rotate_left
    · simp only [Act.put, List.setIfInBounds_toArray, List.set_cons_zero, List.set_cons_succ, i64_w, i32_w]
      rfl
    refine pure_ (i := 6) (N := some 19) (v := ?_) (a' := ?_) #[true, true, false, true, true, true, true, true, false, false, false, false, false, false, false] rfl rfl (by kernel_rfl) (fun _ _ _ h => h) (Or.inl ⟨by rfl, ?_⟩) ?_ ?_
    rotate_left
    · intro w'
      go_simp
      with_reducible rfl
    rotate_left
    · simp only [Act.put, List.setIfInBounds_toArray, List.set_cons_zero, List.set_cons_succ, i64_w, i32_w]
      rfl
    refine take_ (i := 8) (N := some 21) (v := ?_) (a' := ?_) #[true, true, false, true, true, true, true, true, true, false, false, false, false, false, false] rfl rfl (by kernel_rfl) (fun _ _ _ h => h) (Or.inl ⟨by rfl, ?_⟩) hHeld ?_ ?_
    rotate_left
    · rintro w' ⟨s0, s1, s2, s3, s4, s5, s6, s7, s8⟩
      go_simp
      with_reducible rfl
    rotate_left
    · simp only [Act.put, List.setIfInBounds_toArray, List.set_cons_zero, List.set_cons_succ, i64_w, i32_w]
      rfl
    refine pure_ (i := 9) (N := some 22) (v := ?_) (a' := ?_) #[true, true, false, true, true, true, true, true, true, true, false, false, false, false, false] rfl rfl (by kernel_rfl) (fun _ _ _ h => h) (Or.inl ⟨by rfl, ?_⟩) ?_ ?_
    rotate_left
    · intro w'
      go_simp
      with_reducible rfl
    rotate_left
    · simp only [Act.put, List.setIfInBounds_toArray, List.set_cons_zero, List.set_cons_succ, i64_w, i32_w]
      rfl
    refine one_ (i := 2) (N := some 15) #[true, true, true, true, true, true, true, true, true, true, false, false, false, false, false] rfl rfl (by kernel_rfl) (by decide) (fun K hK => ?_)
    refine goes_ Tryz.func49 (by kernel_rfl) rfl #[.slice (some ad) ls.length c0, .agg #[.int .i64 m, .int .i64 a, .int .i64 b, .int .i64 c, .int .i64 d, .int .i64 e, .int .i64 f, .int .i64 g], .int .i64 0] (by rfl) rfl rfl (by simp only [List.map_toArray, List.map_cons, List.map_nil]; rfl) ?_
    with_reducible refine (K49.out).mono ?_
    rintro en w4 ⟨rfl, hb4⟩
    refine ⟨_, rfl, ?_⟩
    have HB4 := Lib.hid (below_step (below_step HB3.out (below_drew (Below.refl _ _))) hb4)
    have HBD := Lib.hid (show Below w3.heap.size w3 w4 from below_step (below_drew (Below.refl _ _)) hb4)
    refine hK.out _ _ ⟨(HBD.out.cell (World.block_lt_of_cell? w3 _ o0)).trans o0, (HBD.out.cell (World.block_lt_of_cell? w3 _ o1)).trans o1, (HBD.out.cell (World.block_lt_of_cell? w3 _ o2)).trans o2, (HBD.out.cell (World.block_lt_of_cell? w3 _ o3)).trans o3, (HBD.out.cell (World.block_lt_of_cell? w3 _ o4)).trans o4, (HBD.out.cell (World.block_lt_of_cell? w3 _ o5)).trans o5, (HBD.out.cell (World.block_lt_of_cell? w3 _ o6)).trans o6, (HBD.out.cell (World.block_lt_of_cell? w3 _ o7)).trans o7, (HBD.out.cell (World.block_lt_of_cell? w3 _ x0)).trans x0⟩ (fun hHeld => ?_)
    clear hK K
    refine norm_ (a' := ?_) ?_ ?_
    rotate_left
    · show Act.put _ (some 15) _ = _
      simp only [Act.put, List.setIfInBounds_toArray, List.set_cons_zero, List.set_cons_succ, i64_w, i32_w]
      rfl
    refine pure_ (i := 10) (N := some 23) (v := ?_) (a' := ?_) #[true, true, true, true, true, true, true, true, true, true, true, false, false, false, false] rfl rfl (by kernel_rfl) (fun _ _ _ h => h) (Or.inl ⟨by rfl, ?_⟩) ?_ ?_
    rotate_left
    · intro w'
      go_simp
      with_reducible rfl
    rotate_left
    · simp only [Act.put, List.setIfInBounds_toArray, List.set_cons_zero, List.set_cons_succ, i64_w, i32_w]
      rfl
    refine pure_ (i := 11) (N := some 24) (v := ?_) (a' := ?_) #[true, true, true, true, true, true, true, true, true, true, true, true, false, false, false] rfl rfl (by kernel_rfl) (fun _ _ _ h => h) (Or.inl ⟨by rfl, ?_⟩) ?_ ?_
    rotate_left
    · intro w'
      go_simp
      with_reducible rfl
    rotate_left
    · simp only [Act.put, List.setIfInBounds_toArray, List.set_cons_zero, List.set_cons_succ, i64_w, i32_w]
      rfl
    refine one_ (i := 12) (N := some 25) #[true, true, true, true, true, true, true, true, true, true, true, true, true, false, false] rfl rfl (by kernel_rfl) (by decide) (fun K hK => ?_)
    refine goes_ Tryz.func24 (by kernel_rfl) rfl #[] (by rfl) rfl rfl (by simp) ?_
    with_reducible refine ((K24.out w4)).mono ?_
    rintro en w5 ⟨rfl, hb5⟩
    refine ⟨_, rfl, ?_⟩
    have HE := Lib.hid (show Below w.heap.size w w5 from below_step HB4.out hb5)
    have HBE := Lib.hid (below_step HBD.out hb5)
    refine hK.out _ _ ⟨(HBE.out.cell (World.block_lt_of_cell? w3 _ o0)).trans o0, (HBE.out.cell (World.block_lt_of_cell? w3 _ o1)).trans o1, (HBE.out.cell (World.block_lt_of_cell? w3 _ o2)).trans o2, (HBE.out.cell (World.block_lt_of_cell? w3 _ o3)).trans o3, (HBE.out.cell (World.block_lt_of_cell? w3 _ o4)).trans o4, (HBE.out.cell (World.block_lt_of_cell? w3 _ o5)).trans o5, (HBE.out.cell (World.block_lt_of_cell? w3 _ o6)).trans o6, (HBE.out.cell (World.block_lt_of_cell? w3 _ o7)).trans o7, (HBE.out.cell (World.block_lt_of_cell? w3 _ x0)).trans x0⟩ (fun hHeld => ?_)
    clear hK K
    refine norm_ (a' := ?_) ?_ ?_
    rotate_left
    · show Act.put _ (some 25) _ = _
      simp only [Act.put, List.setIfInBounds_toArray, List.set_cons_zero, List.set_cons_succ, i64_w, i32_w]
      rfl
    refine pure_ (i := 13) (N := some 26) (v := ?_) (a' := ?_) #[true, true, true, true, true, true, true, true, true, true, true, true, true, true, false] rfl rfl (by kernel_rfl) (fun _ _ _ h => h) (Or.inl ⟨by rfl, ?_⟩) ?_ ?_
    rotate_left
    · intro w'
      go_simp
      with_reducible rfl
    rotate_left
    · simp only [Act.put, List.setIfInBounds_toArray, List.set_cons_zero, List.set_cons_succ, i64_w, i32_w]
      rfl
    refine pure_ (i := 14) (N := some 4) (v := ?_) (a' := ?_) #[true, true, true, true, true, true, true, true, true, true, true, true, true, true, true] rfl rfl (by kernel_rfl) (fun _ _ _ h => h) (Or.inl ⟨by rfl, ?_⟩) ?_ ?_
    rotate_left
    · intro w'
      go_simp
      with_reducible rfl
    rotate_left
    · simp only [Act.put, List.setIfInBounds_toArray, List.set_cons_zero, List.set_cons_succ, i64_w, i32_w]
      rfl
    refine done_ (by kernel_rfl) ?_
    go_wp2_with fail
    rw [HQ.out]
    exact ⟨rfl, HE.out⟩
end Go.Proofs.YtnineoajmgneiaaGreat.fnPickZero
