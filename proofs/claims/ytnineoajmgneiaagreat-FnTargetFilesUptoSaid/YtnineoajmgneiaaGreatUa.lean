/- FnTargetFiles: the walk. -/
import Derived.Test.YtnineoajmgneiaaGreatZg
namespace Go.Proofs.YtnineoajmgneiaaGreat.fnTargetFiles
open Go.RowKit YtnineoajmgneiaaGreatW YtnineoajmgneiaaGreatW.PrintWords YtnineoajmgneiaaGreatW.PrintLast YtnineoajmgneiaaGreatW.PrintMore Fr L Ky Tm Lm It Tg Tp Tl Lk Lo
set_option linter.unusedVariables false
set_option linter.unusedSimpArgs false
set_option maxRecDepth 100000 in
set_option maxHeartbeats 8000000 in
theorem calls {w : World} {A0 : Option Addr} {c0 : Nat} {ls : List (List S68)} {m a b c d e f g : Int} (hC : Kd.C (Kd.slice 68 k68) w A0 ls.length ls) (hc0 : ls.length ≤ c0) (hl0 : ls.length ≤ 2000000) (hl1 : ∀ l ∈ ls, l.length ≤ 2000000) (hts : ∀ l ∈ ls, ∀ t ∈ l, t.f1.size ≤ 2000000 ∧ t.f3.size ≤ 2000000) :
    Calls Tryz.prog 3 #[.slice A0 ls.length c0, .agg #[.int .i64 m, .int .i64 a, .int .i64 b, .int .i64 c, .int .i64 d, .int .i64 e, .int .i64 f, .int .i64 g]] w fun en w' => en = .returned (.bool true) ∧ Below w.heap.size w w' := by
  obtain ⟨Q, hQ⟩ : ∃ Q : Ending → World → Prop, Q = fun en w' => en = .returned (.bool true) ∧ Below w.heap.size w w' := ⟨_, rfl⟩
  rw [← hQ]
  have HQ := Lib.hid hQ
  have HC := Lib.hid hC
  have HC0 := Lib.hid hc0
  have HTS := Lib.hid hts
  have K22 := Lib.hid (fun W (hW : Below w.heap.size w W) => laws_zzFits6.calls (ls.length + 2000002) A0 c0 ls true W (Kd.C_below hC hW) hc0 (fits6 hl0 hl1 hts))
  have K23 := Lib.hid (fun W (hW : Below w.heap.size w W) => ok_calls (w := W) (m := m) (a := a) (b := b) (c := c) (d := d) (e := e) (f := f) (g := g) (Kd.C_below hC hW) hc0 (by omega) hts)
  have K24 := Lib.hid (fun W => Lw.work_calls (w := W))
  clear hQ hC hc0 hts hl0 hl1
  go_enter Tryz.func3, Tryz.ntmps3
  go_upto_region 1 with (fail)
  obtain ⟨w1, hw1⟩ : ∃ w1, w1 = w.alloc (.cells #[.int .i64 m, .int .i64 a, .int .i64 b, .int .i64 c, .int .i64 d, .int .i64 e, .int .i64 f, .int .i64 g] 24) := ⟨_, rfl⟩
  rw [← hw1]
  obtain ⟨b3, hb3⟩ : ∃ b3, b3 = w.heap.size := ⟨_, rfl⟩
  rw [← hb3]
  have HB1 := Lib.hid (show Below w.heap.size w w1 by rw [hw1]; exact below_alloc (Below.refl _ _) _)
  have HO1 := Lib.hid (show w1.heap[b3]? = some (.cells #[.int .i64 m, .int .i64 a, .int .i64 b, .int .i64 c, .int .i64 d, .int .i64 e, .int .i64 f, .int .i64 g] 24 (0, 0)) by rw [hw1, hb3]; exact blk_new w _)
  clear hw1 hb3
  go_wp2_with fail
  refine (K22.out w1 HB1.out).mono ?_
  rintro en w2 ⟨rfl, hb2⟩
  have HB2 := Lib.hid (below_step HB1.out hb2)
  have HO2 := Lib.hid ((hb2.block _ (blk_lt HO1.out)).trans HO1.out)
  clear hb2 K22
  have o0 := blk_cell HO2.out 0
  have o1 := blk_cell HO2.out 1
  have o2 := blk_cell HO2.out 2
  have o3 := blk_cell HO2.out 3
  have o4 := blk_cell HO2.out 4
  have o5 := blk_cell HO2.out 5
  have o6 := blk_cell HO2.out 6
  have o7 := blk_cell HO2.out 7
  go_wp2_with fail
  refine (K23.out w2 HB2.out).mono ?_
  rintro en w3 ⟨r, rfl, hok, hb3⟩
  have HB3 := Lib.hid (below_step HB2.out hb3)
  have HO3 := Lib.hid ((hb3.block _ (blk_lt HO2.out)).trans HO2.out)
  have HOK := Lib.hid hok
  clear hok hb3 K23 o0 o1 o2 o3 o4 o5 o6 o7
  cases r with
  | false =>
    go_wp2_with fail
    refine (K24.out w3).mono ?_
    rintro en w4 ⟨rfl, hb4⟩
    have HB4 := Lib.hid (below_step HB3.out hb4)
    clear hb4
    go_wp2_with fail
    rw [HQ.out]
    exact ⟨rfl, HB4.out⟩
  | true =>
    have HLV := Lib.hid (HOK.out rfl)
    have o0 := blk_cell HO3.out 0
    have o1 := blk_cell HO3.out 1
    have o2 := blk_cell HO3.out 2
    have o3 := blk_cell HO3.out 3
    have o4 := blk_cell HO3.out 4
    have o5 := blk_cell HO3.out 5
    have o6 := blk_cell HO3.out 6
    have o7 := blk_cell HO3.out 7
    have K25 := Lib.hid (targets_ok (Kd.C_below HC.out HB3.out) HC0.out HLV.out HTS.out)
    go_wp2_with fail
    refine K25.out.mono ?_
    rintro en w4 ⟨A, cA, B, cB, rfl, hcA, hA, hcB, hB, hb4⟩
    have HA := Lib.hid hA
    have HCA := Lib.hid hcA
    have HB := Lib.hid hB
    have HCB := Lib.hid hcB
    have HB4 := Lib.hid (below_step HB3.out hb4)
    have HO4 := Lib.hid ((hb4.block _ (blk_lt HO3.out)).trans HO3.out)
    clear hA hcA hB hcB hb4 K25 o0 o1 o2 o3 o4 o5 o6 o7
    obtain ⟨sz, hsz⟩ : ∃ sz, sz = (ls.map (·.map tbOf)).map total := ⟨_, rfl⟩
    rw [← hsz] at HA HB HCA HCB ⊢
    have HSZ := Lib.hid hsz
    have HSL := Lib.hid (show sz.length = ls.length by rw [hsz, List.length_map, List.length_map])
    clear hsz
    obtain ⟨bb, hbb⟩ : ∃ x, x = bl4 ⟨m, a, b, c, d, e, f, g⟩ sz := ⟨_, rfl⟩
    rw [← hbb]
    obtain ⟨F, hF⟩ : ∃ F, F = files ⟨m, a, b, c, d, e, f, g⟩ sz := ⟨_, rfl⟩
    rw [← hF] at HB HCB ⊢
    have HFL := Lib.hid (show F.length = ls.length by rw [hF, Lo.files_len, HSL.out])
    have K27 := Lib.hid (spec_Files.calls ls.length A0 c0 ls m a b c d e f g bb F w4 (Kd.C_below HC.out HB4.out) HC0.out (by rw [hbb, hF]; exact files_spec HSL.out (by have := ok_len HLV.out; omega) (by have := ok_len HLV.out; omega) (Nat.le_refl _)))
    generalize (blT ⟨m, a, b, c, d, e, f, g⟩ sz).2.length = nT
    clear hbb hF HA HCA
    have o0 := blk_cell HO4.out 0
    have o1 := blk_cell HO4.out 1
    have o2 := blk_cell HO4.out 2
    have o3 := blk_cell HO4.out 3
    have o4 := blk_cell HO4.out 4
    have o5 := blk_cell HO4.out 5
    have o6 := blk_cell HO4.out 6
    have o7 := blk_cell HO4.out 7
    go_wp2_with fail
    refine K27.out.mono ?_
    rintro en w5 ⟨v5, rfl, hr5, hb5⟩
    obtain ⟨A5, c5, rfl⟩ := Kd.R_slice hr5
    obtain ⟨-, l5, hC5⟩ := Kd.R_reads' hr5
    have HB5 := Lib.hid (below_step HB4.out hb5)
    have K26 := Lib.hid (laws_sameInts.calls (F.length + 1) B cB F A5 c5 F true w5 (Kd.C_below HB.out hb5) HCB.out hC5 l5 (same_spec (by rw [HFL.out]; have := ok_len HLV.out; omega)))
    clear hr5 l5 hC5 hb5 K27 o0 o1 o2 o3 o4 o5 o6 o7
    go_wp2_with fail
    refine K26.out.mono ?_
    rintro en w6 ⟨rfl, hd6⟩
    have HB6 := Lib.hid (below_step HB5.out hd6.below)
    clear hd6 K26
    go_wp2_with fail
    refine (K24.out w6).mono ?_
    rintro en w7 ⟨rfl, hb7⟩
    have HB7 := Lib.hid (below_step HB6.out hb7)
    clear hb7
    go_wp2_with fail
    rw [HQ.out]
    exact ⟨rfl, HB7.out⟩
end Go.Proofs.YtnineoajmgneiaaGreat.fnTargetFiles
