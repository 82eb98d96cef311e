/- FnTargetBase: the walk. -/
import Derived.Test.YtnineoajmgneiaaGreatZg
namespace Go.Proofs.YtnineoajmgneiaaGreat.fnTargetBase
open Go.RowKit YtnineoajmgneiaaGreatW YtnineoajmgneiaaGreatW.PrintWords YtnineoajmgneiaaGreatW.PrintLast YtnineoajmgneiaaGreatW.PrintMore Fr L Ky Tm Lm It Tg Tp Tl Lk Lo
set_option linter.unusedVariables false
set_option linter.unusedSimpArgs false
theorem sum_ge : ∀ {l : List S68}, (∀ t ∈ l, TOk t) → (l.length : Int) ≤ Tl.sizeOf l
  | [], _ => by simp [Tl.sizeOf]
  | t :: l, h => by
    have h1 := (h t List.mem_cons_self).b
    have h2 := sum_ge (l := l) (fun x hx => h x (List.mem_cons_of_mem _ hx))
    have e : Tl.sizeOf (t :: l) = t.f5 + Tl.sizeOf l := by simp [Tl.sizeOf]
    rw [e, List.length_cons]
    omega
theorem empty_of {ls : List (List S68)} {m a b c d e f g : Int} (h : LvOk ls m a b c d e f g) {i : Nat} (hs : ((ls.map (·.map tbOf)).map total).getD i 0 ≤ 0) : (rd_L3 ls (i : Int)).length = 0 := by
  by_cases hi : i < ls.length
  · have e : rd_L3 ls (i : Int) = ls[i] := by simp [rd_L3, hi]
    have e2 : ((ls.map (·.map tbOf)).map total).getD i 0 = Tl.sizeOf ls[i] := by rw [← total_tb]; simp [List.getD_eq_getElem?_getD, hi]
    rw [e2] at hs
    have := sum_ge (ok_mem h (List.getElem_mem hi)).2
    rw [e]
    omega
  · have e : rd_L3 ls (i : Int) = [] := by simp [rd_L3, Nat.le_of_not_lt hi]
    rw [e]; rfl
set_option maxRecDepth 100000 in
set_option maxHeartbeats 8000000 in
theorem calls {w : World} {A0 : Option Addr} {c0 : Nat} {ls : List (List S68)} {m a b c d e f g : Int} (hC : Kd.C (Kd.slice 68 k68) w A0 ls.length ls) (hc0 : ls.length ≤ c0) (hl0 : ls.length ≤ 2000000) (hl1 : ∀ l ∈ ls, l.length ≤ 2000000) (hts : ∀ l ∈ ls, ∀ t ∈ l, t.f1.size ≤ 2000000 ∧ t.f3.size ≤ 2000000) :
    Calls Tryz.prog 21 #[.slice A0 ls.length c0, .agg #[.int .i64 m, .int .i64 a, .int .i64 b, .int .i64 c, .int .i64 d, .int .i64 e, .int .i64 f, .int .i64 g]] w fun en w' => en = .returned (.bool true) ∧ Below w.heap.size w w' := by
  obtain ⟨Q, hQ⟩ : ∃ Q : Ending → World → Prop, Q = fun en w' => en = .returned (.bool true) ∧ Below w.heap.size w w' := ⟨_, rfl⟩
  rw [← hQ]
  have HQ := Lib.hid hQ
  have HC := Lib.hid hC
  have HC0 := Lib.hid hc0
  have HTS := Lib.hid hts
  have K22 := Lib.hid (fun W (hW : Below w.heap.size w W) => laws_zzFits6.calls (ls.length + 2000002) A0 c0 ls true W (Kd.C_below hC hW) hc0 (fits6 hl0 hl1 hts))
  have K23 := Lib.hid (fun W (hW : Below w.heap.size w W) => ok_calls (w := W) (m := m) (a := a) (b := b) (c := c) (d := d) (e := e) (f := f) (g := g) (Kd.C_below hC hW) hc0 (by omega) hts)
  have K24 := Lib.hid (fun W => Lw.work_calls (w := W))
  clear hQ hC hc0 hts hl0 hl1
  go_enter Tryz.func21, Tryz.ntmps21
  go_upto_region 1 with (fail)
  obtain ⟨w1, hw1⟩ : ∃ w1, w1 = w.alloc (.cells #[.int .i64 m, .int .i64 a, .int .i64 b, .int .i64 c, .int .i64 d, .int .i64 e, .int .i64 f, .int .i64 g] 24) := ⟨_, rfl⟩
  rw [← hw1]
  obtain ⟨b3, hb3⟩ : ∃ b3, b3 = w.heap.size := ⟨_, rfl⟩
  rw [← hb3]
  have HB1 := Lib.hid (show Below w.heap.size w w1 by rw [hw1]; exact below_alloc (Below.refl _ _) _)
  have HO1 := Lib.hid (show w1.heap[b3]? = some (.cells #[.int .i64 m, .int .i64 a, .int .i64 b, .int .i64 c, .int .i64 d, .int .i64 e, .int .i64 f, .int .i64 g] 24 (0, 0)) by rw [hw1, hb3]; exact blk_new w _)
  clear hw1 hb3
  go_wp2_with fail
  refine (K22.out w1 HB1.out).mono ?_
  rintro en w2 ⟨rfl, hb2⟩
  have HB2 := Lib.hid (below_step HB1.out hb2)
  have HO2 := Lib.hid ((hb2.block _ (blk_lt HO1.out)).trans HO1.out)
  clear hb2 K22
  have o0 := blk_cell HO2.out 0
  have o1 := blk_cell HO2.out 1
  have o2 := blk_cell HO2.out 2
  have o3 := blk_cell HO2.out 3
  have o4 := blk_cell HO2.out 4
  have o5 := blk_cell HO2.out 5
  have o6 := blk_cell HO2.out 6
  have o7 := blk_cell HO2.out 7
  go_wp2_with fail
  refine (K23.out w2 HB2.out).mono ?_
  rintro en w3 ⟨r, rfl, hok, hb3⟩
  have HB3 := Lib.hid (below_step HB2.out hb3)
  have HO3 := Lib.hid ((hb3.block _ (blk_lt HO2.out)).trans HO2.out)
  have HOK := Lib.hid hok
  clear hok hb3 K23 o0 o1 o2 o3 o4 o5 o6 o7
  cases r with
  | false =>
    go_wp2_with fail
    refine (K24.out w3).mono ?_
    rintro en w4 ⟨rfl, hb4⟩
    have HB4 := Lib.hid (below_step HB3.out hb4)
    clear hb4
    go_wp2_with fail
    rw [HQ.out]
    exact ⟨rfl, HB4.out⟩
  | true =>
    have HLV := Lib.hid (HOK.out rfl)
    have o0 := blk_cell HO3.out 0
    have o1 := blk_cell HO3.out 1
    have o2 := blk_cell HO3.out 2
    have o3 := blk_cell HO3.out 3
    have o4 := blk_cell HO3.out 4
    have o5 := blk_cell HO3.out 5
    have o6 := blk_cell HO3.out 6
    have o7 := blk_cell HO3.out 7
    have K25 := Lib.hid (targets_ok (Kd.C_below HC.out HB3.out) HC0.out HLV.out HTS.out)
    go_wp2_with fail
    refine K25.out.mono ?_
    rintro en w4 ⟨A, cA, B, cB, rfl, hcA, hA, hcB, hB, hb4⟩
    have HA := Lib.hid hA
    have HCA := Lib.hid hcA
    have HB := Lib.hid hB
    have HCB := Lib.hid hcB
    have HB4 := Lib.hid (below_step HB3.out hb4)
    have HO4 := Lib.hid ((hb4.block _ (blk_lt HO3.out)).trans HO3.out)
    clear hA hcA hB hcB hb4 K25 o0 o1 o2 o3 o4 o5 o6 o7
    obtain ⟨sz, hsz⟩ : ∃ sz, sz = (ls.map (·.map tbOf)).map total := ⟨_, rfl⟩
    rw [← hsz] at HA HB HCA HCB ⊢
    have HSZ := Lib.hid hsz
    have HSL := Lib.hid (show sz.length = ls.length by rw [hsz, List.length_map, List.length_map])
    clear hsz
    obtain ⟨bb, hbb⟩ : ∃ x, x = bl4 ⟨m, a, b, c, d, e, f, g⟩ sz := ⟨_, rfl⟩
    rw [← hbb]
    have HR := Lib.hid (show 1 ≤ bb ∧ bb ≤ (sz.length - 1 : Nat) by rw [hbb]; exact bl4_range _ sz (by rw [HSL.out]; exact (ok_len HLV.out).1))
    obtain ⟨bn, hbn⟩ : ∃ bn : Nat, bb = (bn : Int) := ⟨bb.toNat, by have := HR.out; omega⟩
    have HLOW := Lib.hid (show ∀ i, 1 ≤ i → i < bn → (rd_L3 ls (i : Int)).length = 0 from fun i h1 h2 => by
      have h := base_low (o := ⟨m, a, b, c, d, e, f, g⟩) (sz := sz) (by rw [HSL.out]; exact (ok_len HLV.out).1) (j := i) h1 (by rw [← hbb, hbn]; omega)
      rw [HSZ.out] at h
      exact empty_of HLV.out h)
    subst hbn
    generalize (blT ⟨m, a, b, c, d, e, f, g⟩ sz).2.length = nT
    generalize (files ⟨m, a, b, c, d, e, f, g⟩ sz).length = nF
    obtain ⟨n, hn⟩ : ∃ n, ls.length = n + 1 := ⟨ls.length - 1, by have := ok_len HLV.out; omega⟩
    have HN := Lib.hid (show (1 : Int) ≤ (bn : Int) ∧ (bn : Int) ≤ (n : Int) ∧ n ≤ 7 by have := HR.out; have := HSL.out; have := ok_len HLV.out; omega)
    have HNE := Lib.hid hn
    have s1 : IntKind.i64.wrap ((n : Int) + 1 - 1) = (n : Int) := by rw [IntWalk.i64_in _ (by have := HN.out; omega)]; omega
    have s2 : wrap64 (n : Int) = (n : Int) := by have := HN.out; unfold wrap64; omega
    have K46 := Lib.hid (spec_Within.calls (bn : Int) 1 (n : Int) true w4 (by rw [within, decide_eq_true ⟨HN.out.1, HN.out.2.1⟩]))
    rw [hn]
    clear hbb hn HA HB HCA HCB HSZ
    go_wp2_with fail
    refine K46.out.mono ?_
    rintro en w5 ⟨rfl, hd5⟩
    have HB5 := Lib.hid (below_step HB4.out hd5.below)
    clear hd5 K46 s1 s2
    go_wp2_with fail
    go_loopg [8] bn (fun kq v8 wr => w5 = wr ∧ ∃ i : Nat, v8 = .int .i64 (i : Int) ∧ Aside0 (1 ≤ i ∧ bn ≤ i + kq))
    case atStart => exact ⟨rfl, 1, rfl, ⟨by omega, by omega⟩⟩
    case round =>
      obtain ⟨rfl, i, rfl, HI⟩ := hrel
      by_cases hi : i < bn
      · have d1 : decide ((i : Int) < (bn : Int)) = true := decide_eq_true (by omega)
        have dn : i < bn := hi
        have d2 : i < n + 1 := by have := HN.out; omega
        have HGK := Lib.hid (show gk - 1 < gk ∧ 1 ≤ i + 1 ∧ bn ≤ i + 1 + (gk - 1) by have := HI.out; omega)
        have HWR := Lib.hid (show Value.int IntKind.i64 (wrap64 ((i : Int) + 1)) = Value.int IntKind.i64 ((i + 1 : Nat) : Int) by rw [show wrap64 ((i : Int) + 1) = ((i + 1 : Nat) : Int) by have := HN.out; unfold wrap64; omega])
        obtain ⟨ad, A1, c1, eA, x0, -, -⟩ := at_L3 (Kd.C_below HC.out HB5.out) (i : Int) (by omega) (by have := HNE.out; omega)
        subst eA
        rw [HLOW.out i HI.out.1 hi, show ((i : Int)).toNat = i from rfl] at x0
        clear hi HI
        go_wp2_with fail
        go_roundg (gk - 1)
        case measure => exact HGK.out.1
        case rel => exact ⟨rfl, i + 1, HWR.out, ⟨HGK.out.2⟩⟩
      · have d1 : decide ((i : Int) < (bn : Int)) = false := decide_eq_false (by omega)
        have dn : decide (i < bn) = false := decide_eq_false hi
        clear hi HI
        go_wp2_with fail
        refine (K24.out w5).mono ?_
        rintro en w7 ⟨rfl, hb7⟩
        have HB7 := Lib.hid (below_step HB5.out hb7)
        clear hb7
        go_wp2_with fail
        rw [HQ.out]
        exact ⟨rfl, HB7.out⟩
end Go.Proofs.YtnineoajmgneiaaGreat.fnTargetBase
