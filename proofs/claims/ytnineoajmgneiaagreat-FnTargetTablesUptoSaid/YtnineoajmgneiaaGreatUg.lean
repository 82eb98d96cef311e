/- FnTargetTables: the walk. -/
import Derived.Test.YtnineoajmgneiaaGreatOv
namespace Go.Proofs.YtnineoajmgneiaaGreat.fnTargetTables
open Go.RowKit YtnineoajmgneiaaGreatW YtnineoajmgneiaaGreatW.PrintWords YtnineoajmgneiaaGreatW.PrintLast YtnineoajmgneiaaGreatW.PrintMore Fr L Ky Tm Lm It Tg Tp Tl Lk Lo Ov
set_option linter.unusedVariables false
set_option linter.unusedSimpArgs false
theorem info34 : (Tryz.prog.info? 34).map (fun i => (i.zero, i.size, i.bytes)) = some (some (.slice none 0 0), 1, 24) := by kernel_rfl
/-- The sizes from level 1 on are the same. -/
theorem tail_sizes {l2 : List S68} {ls : List (List S68)} (h : 1 ≤ ls.length) : (((l2 :: ls.drop 1).map (·.map tbOf)).map total).length = ((ls.map (·.map tbOf)).map total).length ∧ ∀ j, 1 ≤ j → ((ls.map (·.map tbOf)).map total).getD j 0 = (((l2 :: ls.drop 1).map (·.map tbOf)).map total).getD j 0 := by
  cases ls with
  | nil => simp at h
  | cons l ls =>
    refine ⟨by simp, fun j hj => ?_⟩
    obtain ⟨j, rfl⟩ : ∃ q, j = q + 1 := ⟨j - 1, by omega⟩
    simp
theorem all_post {w : World} {o : Lm.Op} {sz sz2 : List Int} (hl : sz.length = sz2.length) (h2 : 2 ≤ sz.length) (h : ∀ j, 1 ≤ j → sz.getD j 0 = sz2.getD j 0) {e : Ending} {w' : World} (hp : AllPost w o sz2 e w') : AllPost w o sz e w' := by
  obtain ⟨h3, h4, h5⟩ := same_levels (o := o) hl h2 h
  unfold AllPost at hp ⊢
  rw [h3, h4, h5]
  exact hp
/-- The first level, exchanged: one row of the call's own. -/
theorem swapped {w w2 : World} {B : Nat} {ok : Nat → Prop} {A2 A3 : Option Addr} {n c2 c3 : Nat} {l2 : List S68} {ls : List (List S68)} {ys : List Value} (hl : (ls.drop 1).length = n) (hC2 : Kd.C k68 w A2 l2.length l2) (hc2 : l2.length ≤ c2) (hy : ys.length = n) (hk : ∀ (j : Nat) (x : List S68) (y : Value), (ls.drop 1)[j]? = some x → ys[j]? = some y → (Kd.slice 68 k68).K w x [ov y]) (hb : Below w.heap.size w w2) (hR : Kd.R kO 34 w2 B ok (.slice A3 (n + 1) c3) ([Value.slice A2 l2.length c2] ++ ys)) :
    Kd.C (Kd.slice 68 k68) w2 A3 (l2 :: ls.drop 1).length (l2 :: ls.drop 1) := by
  obtain ⟨-, -, hC⟩ := Kd.R_reads' hR
  have e : (l2 :: ls.drop 1).length = ([Value.slice A2 l2.length c2] ++ ys).length := by rw [List.length_cons, hl, List.length_append, hy, List.length_singleton]; omega
  rw [e]
  refine row_back rfl hC e (fun j x y hx hy2 => ?_)
  cases j with
  | zero =>
    simp at hx hy2
    subst hx
    subst hy2
    exact ⟨A2, c2, by rw [ov_of rfl], hc2, Kd.C_below hC2 hb⟩
  | succ j =>
    rw [List.getElem?_cons_succ] at hx
    rw [List.singleton_append, List.getElem?_cons_succ] at hy2
    exact (Kd.slice 68 k68).K_below hb (hk j x y hx hy2)
set_option maxRecDepth 100000 in
set_option maxHeartbeats 8000000 in
theorem calls {w : World} {A0 : Option Addr} {c0 : Nat} {ls : List (List S68)} {m a b c d e f g : Int} (hC : Kd.C (Kd.slice 68 k68) w A0 ls.length ls) (hc0 : ls.length ≤ c0) (hl0 : ls.length ≤ 2000000) (hl1 : ∀ l ∈ ls, l.length ≤ 2000000) (hts : ∀ l ∈ ls, ∀ t ∈ l, t.f1.size ≤ 2000000 ∧ t.f3.size ≤ 2000000)
    {A2 : Option Addr} {c2 : Nat} {l2 : List S68} (hC2 : Kd.C k68 w A2 l2.length l2) (hc2 : l2.length ≤ c2) (ht1 : l2.length ≤ 2000000) (ht2 : ∀ t ∈ l2, t.f1.size ≤ 2000000 ∧ t.f3.size ≤ 2000000) :
    Calls Tryz.prog 5 #[.slice A0 ls.length c0, .agg #[.int .i64 m, .int .i64 a, .int .i64 b, .int .i64 c, .int .i64 d, .int .i64 e, .int .i64 f, .int .i64 g], .slice A2 l2.length c2] w fun en w' => en = .returned (.bool true) ∧ Below w.heap.size w w' := by
  obtain ⟨Q, hQ⟩ : ∃ Q : Ending → World → Prop, Q = fun en w' => en = .returned (.bool true) ∧ Below w.heap.size w w' := ⟨_, rfl⟩
  rw [← hQ]
  have HQ := Lib.hid hQ
  have HC := Lib.hid hC
  have HC0 := Lib.hid hc0
  have HTS := Lib.hid hts
  have HC2 := Lib.hid hC2
  have HCC2 := Lib.hid hc2
  have HL1 := Lib.hid hl1
  have HT2 := Lib.hid (show l2.length ≤ 2000000 ∧ ∀ t ∈ l2, t.f1.size ≤ 2000000 ∧ t.f3.size ≤ 2000000 from ⟨ht1, ht2⟩)
  have K22 := Lib.hid (fun W (hW : Below w.heap.size w W) => laws_zzFits6.calls (ls.length + 2000002) A0 c0 ls true W (Kd.C_below hC hW) hc0 (fits6 hl0 hl1 hts))
  have K29 := Lib.hid (fun W (hW : Below w.heap.size w W) => laws_zzFits7.calls 2000001 A2 c2 l2 true W (Kd.C_below hC2 hW) hc2 (fits7 ht1 ht2 (Nat.le_refl _)))
  have K23 := Lib.hid (fun W (hW : Below w.heap.size w W) => ok_calls (w := W) (m := m) (a := a) (b := b) (c := c) (d := d) (e := e) (f := f) (g := g) (Kd.C_below hC hW) hc0 (by omega) hts)
  have K24 := Lib.hid (fun W => Lw.work_calls (w := W))
  clear hQ hC hc0 hts hl0 hl1 hC2 hc2 ht1 ht2
  obtain ⟨n2, hn2⟩ : ∃ n, n = l2.length := ⟨_, rfl⟩
  rw [← hn2] at K29 ⊢
  have HN2 := Lib.hid hn2
  clear hn2
  go_enter Tryz.func5, Tryz.ntmps5
  go_upto_region 1 with (fail)
  obtain ⟨w1, hw1⟩ : ∃ w1, w1 = w.alloc (.cells #[.int .i64 m, .int .i64 a, .int .i64 b, .int .i64 c, .int .i64 d, .int .i64 e, .int .i64 f, .int .i64 g] 24) := ⟨_, rfl⟩
  rw [← hw1]
  obtain ⟨b3, hb3⟩ : ∃ b3, b3 = w.heap.size := ⟨_, rfl⟩
  rw [← hb3]
  have HB1 := Lib.hid (show Below w.heap.size w w1 by rw [hw1]; exact below_alloc (Below.refl _ _) _)
  have HO1 := Lib.hid (show w1.heap[b3]? = some (.cells #[.int .i64 m, .int .i64 a, .int .i64 b, .int .i64 c, .int .i64 d, .int .i64 e, .int .i64 f, .int .i64 g] 24 (0, 0)) by rw [hw1, hb3]; exact blk_new w _)
  clear hw1 hb3
  go_wp2_with fail
  refine (K22.out w1 HB1.out).mono ?_
  rintro en w1b ⟨rfl, hb1b⟩
  have HB1b := Lib.hid (below_step HB1.out hb1b)
  have HO1b := Lib.hid ((hb1b.block _ (blk_lt HO1.out)).trans HO1.out)
  clear hb1b K22
  go_wp2_with fail
  refine (K29.out w1b HB1b.out).mono ?_
  rintro en w2 ⟨rfl, hb2⟩
  have HB2 := Lib.hid (below_step HB1b.out hb2)
  have HO2 := Lib.hid ((hb2.block _ (blk_lt HO1b.out)).trans HO1b.out)
  clear hb2 K29
  have o0 := blk_cell HO2.out 0
  have o1 := blk_cell HO2.out 1
  have o2 := blk_cell HO2.out 2
  have o3 := blk_cell HO2.out 3
  have o4 := blk_cell HO2.out 4
  have o5 := blk_cell HO2.out 5
  have o6 := blk_cell HO2.out 6
  have o7 := blk_cell HO2.out 7
  go_wp2_with fail
  refine (K23.out w2 HB2.out).mono ?_
  rintro en w3 ⟨r, rfl, hok, hb3⟩
  have HB3 := Lib.hid (below_step HB2.out hb3)
  have HO3 := Lib.hid ((hb3.block _ (blk_lt HO2.out)).trans HO2.out)
  have HOK := Lib.hid hok
  clear hok hb3 K23 o0 o1 o2 o3 o4 o5 o6 o7
  cases r with
  | false =>
    go_wp2_with fail
    refine (K24.out w3).mono ?_
    rintro en w4 ⟨rfl, hb4⟩
    have HB4 := Lib.hid (below_step HB3.out hb4)
    clear hb4
    go_wp2_with fail
    rw [HQ.out]
    exact ⟨rfl, HB4.out⟩
  | true =>
    have HLV := Lib.hid (HOK.out rfl)
    have h1 := ok_len HLV.out
    have HLL := Lib.hid h1
    have CD := Kd.C_drop (m := 1) (Kd.C_below HC.out HB3.out) (by omega) HC0.out
    obtain ⟨i34, hi34, hs34⟩ := Option.map_eq_some_iff.1 info34
    have S1 := Lib.hid (cut_from (P := Tryz.prog) 22 34 .i64 (by kernel_rfl) hi34 1 (by injection hs34 with _ h; injection h) A0 ls.length c0 1 (by omega) (by omega))
    rw [show ((1 : Int)).toNat = 1 from rfl] at S1
    have hdl : (ls.drop 1).length = ls.length - 1 := List.length_drop
    rw [show (Kd.slice 68 k68).sz = 1 from rfl, hdl] at CD
    generalize (if c0 = 1 then A0 else A0.map (·.add (1 * 1))) = A' at CD S1
    obtain ⟨ys, hys, hyk⟩ := row_of rfl CD
    have HYS := Lib.hid hys
    have HYK := Lib.hid hyk
    have HC23 := Lib.hid (Kd.C_below HC2.out HB3.out)
    have s1 := S1.out
    have HLN := Lib.hid (show ([Value.slice A2 n2 c2].length + (ls.length - 1)) * 24 ≤ 140737488355328 by rw [List.length_singleton]; have := HLL.out; omega)
    clear CD hs34 hi34 hdl hys hyk S1 h1
    go_upto_region 6 with (first | ((with_reducible refine gate_dst (N := 28) rfl ?_); refine Kd.R_lit kO (w0 := w3) w3.heap.size 34 ?hg (N := 28) ?hd (xs := ([.slice A2 n2 c2] : List Value)) (inner := [.slice A2 n2 c2]) (ok := fun _ => True) (okp := fun _ => True) ?hr ?hp (fun _ hk => hk) trivial (Below.refl _ _) (Nat.le_refl _) (by simp) ?_; (case hd => rfl); (case hg => rfl); (case hr => first | (go_simp; done) | (go_simp; rfl)); (case hp => exact (Reps.one (show kO.M _ _ _ (.slice A2 n2 c2) [.slice A2 n2 c2] from rfl) (Reps.none _ _))); intro v5 w4 ho hb hg_ hnew_; have HR4 := Lib.hid ho; have HB4 := Lib.hid hb; have s2 := s1; clear hg_ hnew_ ho hb) | ((with_reducible refine gate_builtin (b := .append) (xs := #[.tmp 28, .tmp 30]) rfl ?_); at_builtin; refine Kd.R_append_rows kO (Rr := fun x cs => cs = [ov x]) (w0 := w3) w3.heap.size rfl (.tmp 28) (.tmp 30) 22 34 (.slice none 0 0) 24 rfl Tryz.underlying22 info34 rfl (by decide) (by omega) _ [.slice A2 n2 c2] ys A' (ls.length - 1) (c0 - 1) (fun _ => True) (fun _ => False) rfl rfl ?aO ?aR (fun _ _ h => h) (fun _ hk => hk.elim) ?aF ?aB ?aS ?aL ?_; (case aB => exact HB4.out); (case aF => exact (fun _ _ => trivial)); (case aO => exact HR4.out); (case aR => exact Kd.C_below HYS.out HB4.out); (case aS => exact below_size HB4.out); (case aL => exact HLN.out); intro v7 w5 ho hb hg hat; have HR5 := Lib.hid ho; have HB5 := Lib.hid hb; clear ho hb hg hat))
    have hyl : ys.length = ls.length - 1 := HYS.out.1
    have hle := HLL.out
    obtain ⟨A3, c3, e7⟩ := Kd.R_slice HR5.out
    rw [show ([Value.slice A2 n2 c2] ++ ys).length = ls.length by rw [List.length_append, List.length_singleton, hyl]; omega] at e7
    subst e7
    obtain ⟨e8, c7, -⟩ := Kd.R_reads' HR5.out
    have hC7 := swapped (w := w3) (n := ls.length - 1) (c2 := c2) List.length_drop HC23.out HCC2.out hyl HYK.out (HB5.out) (by rw [← HN2.out, show ls.length - 1 + 1 = ls.length by omega]; exact HR5.out)
    have hs := tail_sizes (l2 := l2) (ls := ls) (by omega)
    obtain ⟨ls2, hls2⟩ : ∃ x, x = l2 :: ls.drop 1 := ⟨_, rfl⟩
    rw [← hls2] at hC7 hs
    have hl2 : ls2.length = ls.length := by rw [hls2, List.length_cons, List.length_drop]; omega
    have hts2 : ∀ l ∈ ls2, ∀ t ∈ l, t.f1.size ≤ 2000000 ∧ t.f3.size ≤ 2000000 := by
      rw [hls2]
      intro l hl
      rcases List.mem_cons.1 hl with rfl | h
      · exact HT2.out.2
      · exact HTS.out l (List.mem_of_mem_drop h)
    have HTS2 := Lib.hid hts2
    have HC7 := Lib.hid hC7
    have HC7c := Lib.hid (show ls2.length ≤ c3 by omega)
    have HSS := Lib.hid hs
    have HL2 := Lib.hid hl2
    have HB5w := Lib.hid (below_step HB3.out HB5.out)
    have HO5 := Lib.hid ((HB5.out.block _ (blk_lt HO3.out)).trans HO3.out)
    have K23 := Lib.hid (ok_calls (w := w5) (m := m) (a := a) (b := b) (c := c) (d := d) (e := e) (f := f) (g := g) hC7 HC7c.out (by omega) hts2)
    rw [hl2] at K23
    clear hyl hle e8 c7 hC7 hs hls2 hl2 hts2 s1 s2 HR4 HR5 HYS HYK HC23 HLN HB4
    have o0 := blk_cell HO5.out 0
    have o1 := blk_cell HO5.out 1
    have o2 := blk_cell HO5.out 2
    have o3 := blk_cell HO5.out 3
    have o4 := blk_cell HO5.out 4
    have o5 := blk_cell HO5.out 5
    have o6 := blk_cell HO5.out 6
    have o7 := blk_cell HO5.out 7
    go_wp2_with fail
    refine K23.out.mono ?_
    rintro en w6 ⟨r2, rfl, hok2, hb6⟩
    have HB6 := Lib.hid (below_step HB5w.out hb6)
    have HC6 := Lib.hid (Kd.C_below HC7.out hb6)
    have HO6 := Lib.hid ((hb6.block _ (blk_lt HO5.out)).trans HO5.out)
    have HOK2 := Lib.hid hok2
    clear hok2 hb6 K23 o0 o1 o2 o3 o4 o5 o6 o7
    cases r2 with
    | false =>
      go_wp2_with fail
      refine (K24.out w6).mono ?_
      rintro en w7 ⟨rfl, hb7⟩
      have HB7 := Lib.hid (below_step HB6.out hb7)
      clear hb7
      go_wp2_with fail
      rw [HQ.out]
      exact ⟨rfl, HB7.out⟩
    | true =>
      have HLV2 := Lib.hid (HOK2.out rfl)
      have K25 := Lib.hid (targets_ok (Kd.C_below HC.out HB6.out) HC0.out HLV.out HTS.out)
      have o0 := blk_cell HO6.out 0
      have o1 := blk_cell HO6.out 1
      have o2 := blk_cell HO6.out 2
      have o3 := blk_cell HO6.out 3
      have o4 := blk_cell HO6.out 4
      have o5 := blk_cell HO6.out 5
      have o6 := blk_cell HO6.out 6
      have o7 := blk_cell HO6.out 7
      go_wp2_with fail
      refine K25.out.mono ?_
      rintro en w7 ⟨A, cA, B, cB, rfl, hcA, hA, hcB, hB, hb7⟩
      have HA := Lib.hid hA
      have HCA := Lib.hid hcA
      have HB := Lib.hid hB
      have HCB := Lib.hid hcB
      have HB7 := Lib.hid (below_step HB6.out hb7)
      have HC7 := Lib.hid (Kd.C_below HC6.out hb7)
      have HO7 := Lib.hid ((hb7.block _ (blk_lt HO6.out)).trans HO6.out)
      clear hA hcA hB hcB hb7 K25 HC6 o0 o1 o2 o3 o4 o5 o6 o7
      have K25 := Lib.hid (targets_ok HC7.out HC7c.out HLV2.out HTS2.out)
      rw [HL2.out] at K25
      obtain ⟨sz, hsz⟩ : ∃ sz, sz = (ls.map (·.map tbOf)).map total := ⟨_, rfl⟩
      obtain ⟨sz2, hsz2⟩ : ∃ sz, sz = (ls2.map (·.map tbOf)).map total := ⟨_, rfl⟩
      rw [← hsz] at HA HB HCA HCB HSS ⊢
      rw [← hsz2] at HSS K25
      have hsl : sz.length = ls.length := by rw [hsz, List.length_map, List.length_map]
      have HS2 := Lib.hid (show sz.length = sz2.length ∧ 2 ≤ sz.length from ⟨HSS.out.1.symm, by rw [hsl]; exact HLL.out.1⟩)
      have HSL := Lib.hid hsl
      clear hsz hsz2 hsl
      have o0 := blk_cell HO7.out 0
      have o1 := blk_cell HO7.out 1
      have o2 := blk_cell HO7.out 2
      have o3 := blk_cell HO7.out 3
      have o4 := blk_cell HO7.out 4
      have o5 := blk_cell HO7.out 5
      have o6 := blk_cell HO7.out 6
      have o7 := blk_cell HO7.out 7
      go_wp2_with fail
      refine K25.out.mono ?_
      rintro en w8 hp
      obtain ⟨X, cX, Y, cY, rfl, hcX, hX, hcY, hY, hb8⟩ := all_post HS2.out.1 HS2.out.2 HSS.out.2 hp
      obtain ⟨bb, hbb⟩ : ∃ x, x = bl4 ⟨m, a, b, c, d, e, f, g⟩ sz := ⟨_, rfl⟩
      obtain ⟨F, hF⟩ : ∃ F, F = files ⟨m, a, b, c, d, e, f, g⟩ sz := ⟨_, rfl⟩
      obtain ⟨T, hT⟩ : ∃ T, T = (blT ⟨m, a, b, c, d, e, f, g⟩ sz).2 := ⟨_, rfl⟩
      rw [← hF] at HB HCB hcY hY
      rw [← hT] at HA HCA hcX hX
      rw [← hF, ← hT, ← hbb]
      have hfl : F.length = ls.length := by rw [hF, Lo.files_len, HSL.out]
      have htl : T.length = ls.length := by rw [hT, T_len, HSL.out]
      have HB8 := Lib.hid (below_step HB7.out hb8)
      have K26a := Lib.hid (laws_sameInts.calls (T.length + 1) A cA T X cX T true w8 (Kd.C_below HA.out hb8) HCA.out hX hcX (same_spec (by rw [htl]; have := HLL.out; omega)))
      have K26b := Lib.hid (fun W (hW : Below w8.heap.size w8 W) => laws_sameInts.calls (F.length + 1) B cB F Y cY F true W (Kd.C_below (Kd.C_below HB.out hb8) hW) HCB.out (Kd.C_below hY hW) hcY (same_spec (by rw [hfl]; have := HLL.out; omega)))
      rw [hfl] at K26b ⊢
      rw [htl] at K26a ⊢
      have e1 : (bb == bb) = true := beq_self_eq_true bb
      clear hp hcX hX hcY hY hb8 hbb hF hT hfl htl HA HCA HB HCB K25 o0 o1 o2 o3 o4 o5 o6 o7
      go_wp2_with fail
      refine K26a.out.mono ?_
      rintro en w9 ⟨rfl, hd9⟩
      have HB9 := Lib.hid (show Below w8.heap.size w8 w9 from hd9.below)
      clear hd9
      go_wp2_with fail
      refine (K26b.out w9 HB9.out).mono ?_
      rintro en w10 ⟨rfl, hd10⟩
      have HB10 := Lib.hid (below_step HB8.out (below_step HB9.out hd10.below))
      clear hd10
      go_wp2_with fail
      refine (K24.out w10).mono ?_
      rintro en w11 ⟨rfl, hb11⟩
      have HB11 := Lib.hid (below_step HB10.out hb11)
      clear hb11
      go_wp2_with fail
      rw [HQ.out]
      exact ⟨rfl, HB11.out⟩
end Go.Proofs.YtnineoajmgneiaaGreat.fnTargetTables
