/- picked: whether a level is among those that want compaction; the walk. -/
import Derived.Test.YtnineoajmgneiaaGreatZh
namespace Go.Proofs.YtnineoajmgneiaaGreat.Pd
open Go.RowKit YtnineoajmgneiaaGreatW YtnineoajmgneiaaGreatW.PrintWords YtnineoajmgneiaaGreatW.PrintLast YtnineoajmgneiaaGreatW.PrintMore Fr L Ky Tm Lm It Tg Tp Tl Lk Lo Pk
set_option linter.unusedVariables false
set_option linter.unusedSimpArgs false
variable {ls : List (List S68)} {m a b c d e f g : Int}
/-- The scores of levels. -/
noncomputable def sc (ls : List (List S68)) (m a b c d e f g : Int) : Nat → Nat := score ((ls.map (·.map tbOf)).getD 0 []).length ⟨m, a, b, c, d, e, f, g⟩ ((ls.map (·.map tbOf)).map total)
theorem picked_iff {n : Nat} {S : Nat → Nat} {qs : List Q3} (h : Picked n S qs) (i : Nat) : (∃ q ∈ qs, q.lv = (i : Int)) ↔ i < n ∧ ONE ≤ S i := by
  have h1 : (i : Int) ∈ qs.map (·.lv) ↔ (i : Int) ∈ ((List.range n).filter (fun i => decide (ONE ≤ S i))).map (fun (i : Nat) => (i : Int)) := h.perm.mem_iff
  rw [List.mem_map] at h1
  rw [h1, List.mem_map]
  constructor
  · rintro ⟨j, hj, e⟩
    obtain rfl : j = i := by omega
    obtain ⟨h2, h3⟩ := List.mem_filter.1 hj
    exact ⟨List.mem_range.1 h2, of_decide_eq_true h3⟩
  · rintro ⟨h2, h3⟩
    exact ⟨i, List.mem_filter.2 ⟨List.mem_range.2 h2, decide_eq_true h3⟩, rfl⟩
set_option maxRecDepth 100000 in
set_option maxHeartbeats 8000000 in
theorem picked_calls {w : World} {A0 : Option Addr} {c0 : Nat} {i : Nat} (hC : Kd.C (Kd.slice 68 k68) w A0 ls.length ls) (hc0 : ls.length ≤ c0) (h : LvOk ls m a b c d e f g) (hts : ∀ l ∈ ls, ∀ t ∈ l, t.f1.size ≤ 2000000 ∧ t.f3.size ≤ 2000000) (hi : i < ls.length - 1) {r : Bool} (hr : r = decide (ONE ≤ sc ls m a b c d e f g i)) :
    Calls Tryz.prog 49 #[.slice A0 ls.length c0, .agg #[.int .i64 m, .int .i64 a, .int .i64 b, .int .i64 c, .int .i64 d, .int .i64 e, .int .i64 f, .int .i64 g], .int .i64 (i : Int)] w fun en w' => en = .returned (.bool r) ∧ Below w.heap.size w w' := by
  obtain ⟨Q, hQ⟩ : ∃ Q : Ending → World → Prop, Q = fun en w' => en = .returned (.bool r) ∧ Below w.heap.size w w' := ⟨_, rfl⟩
  rw [← hQ]
  have HQ := Lib.hid hQ
  have HRR := Lib.hid hr
  have HI0 := Lib.hid hi
  have K51 := Lib.hid (fun W (hW : Below w.heap.size w W) => pick_ok (w := W) (Kd.C_below hC hW) hc0 h hts)
  clear hQ hC hc0 h hts hr hi
  go_enter Tryz.func49, Tryz.ntmps49
  go_upto_region 1 with (fail)
  obtain ⟨w1, hw1⟩ : ∃ w1, w1 = w.alloc (.cells #[.int .i64 m, .int .i64 a, .int .i64 b, .int .i64 c, .int .i64 d, .int .i64 e, .int .i64 f, .int .i64 g] 24) := ⟨_, rfl⟩
  rw [← hw1]
  obtain ⟨b3, hb3⟩ : ∃ b3, b3 = w.heap.size := ⟨_, rfl⟩
  rw [← hb3]
  have HB1 := Lib.hid (show Below w.heap.size w w1 by rw [hw1]; exact below_alloc (Below.refl _ _) _)
  have HO1 := Lib.hid (show w1.heap[b3]? = some (.cells #[.int .i64 m, .int .i64 a, .int .i64 b, .int .i64 c, .int .i64 d, .int .i64 e, .int .i64 f, .int .i64 g] 24 (0, 0)) by rw [hw1, hb3]; exact blk_new w _)
  clear hw1 hb3
  have o0 := blk_cell HO1.out 0
  have o1 := blk_cell HO1.out 1
  have o2 := blk_cell HO1.out 2
  have o3 := blk_cell HO1.out 3
  have o4 := blk_cell HO1.out 4
  have o5 := blk_cell HO1.out 5
  have o6 := blk_cell HO1.out 6
  have o7 := blk_cell HO1.out 7
  go_wp2_with fail
  refine (K51.out w1 HB1.out).mono ?_
  rintro en w2 ⟨A, cA, qs, rfl, hcA, hA, hpk, hle, hb2⟩
  have HA := Lib.hid hA
  have HP := Lib.hid (picked_iff hpk i)
  have HLE := Lib.hid hle
  have HB2 := Lib.hid (below_step HB1.out hb2)
  clear hcA hA hpk hle hb2 K51 o0 o1 o2 o3 o4 o5 o6 o7 HO1
  obtain ⟨n, hn⟩ : ∃ n, n = qs.length := ⟨_, rfl⟩
  rw [← hn] at HA HLE ⊢
  have HN := Lib.hid hn
  clear hn
  go_wp2_with fail
  go_loopg [13] n (fun kq v13 wr => Below w2.heap.size w2 wr ∧ ∃ j : Nat, v13 = .int .i64 (j : Int) ∧ Aside0 (j + kq = n ∧ ∀ q ∈ qs.take j, q.lv ≠ (i : Int)))
  case atStart => exact ⟨Below.refl _ _, 0, rfl, ⟨by omega, by simp⟩⟩
  case round =>
    obtain ⟨hbr, j, rfl, HI⟩ := hrel
    have HBR := Lib.hid hbr
    clear hbr
    by_cases hj : j < n
    · have d1 : decide ((j : Int) < (n : Int)) = true := decide_eq_true (by omega)
      have dj : j < n := hj
      have HGK := Lib.hid (show gk - 1 < gk ∧ j + 1 + (gk - 1) = n by have := HI.out.1; omega)
      have HWR := Lib.hid (show Value.int IntKind.i64 (wrap64 ((j : Int) + 1)) = Value.int IntKind.i64 ((j + 1 : Nat) : Int) by rw [show wrap64 ((j : Int) + 1) = ((j + 1 : Nat) : Int) by have := HLE.out; unfold wrap64; omega])
      have hjq : j < qs.length := by have := HN.out; omega
      have HTK := Lib.hid (show qs.take (j + 1) = qs.take j ++ [rd3 qs (j : Int)] by rw [List.take_succ_eq_append_getElem hjq]; simp [rd3, hjq])
      have HMQ := Lib.hid (show rd3 qs (j : Int) ∈ qs by
        have e : rd3 qs (j : Int) = qs[j] := by simp [rd3, hjq]
        rw [e]
        exact List.getElem_mem hjq)
      obtain ⟨ad, eA, x0, x1, x2⟩ := at3 (Kd.C_below HA.out HBR.out) (j : Int) (by omega) (by omega)
      subst eA
      obtain ⟨q, hq⟩ : ∃ q, q = rd3 qs (j : Int) := ⟨_, rfl⟩
      rw [← hq] at x0 x1 x2 HTK HMQ
      rw [show ((j : Int)).toNat = j from rfl] at x0 x1 x2
      have rsf := run_storeF
      have HIN := Lib.hid HI.out.2
      clear hj HI hjq hq
      go_upto_region 4 with (fail)
      obtain ⟨wa, hwa⟩ : ∃ wa, wa = wr.alloc (.cells #[.int .i64 q.lv, .float .f64 q.s, .float .f64 q.a] 64) := ⟨_, rfl⟩
      rw [← hwa]
      obtain ⟨qb, hqb⟩ : ∃ b, b = wr.heap.size := ⟨_, rfl⟩
      rw [← hqb]
      have HBA := Lib.hid (below_step HBR.out (show Below wr.heap.size wr wa by rw [hwa]; exact below_alloc (Below.refl _ _) _))
      have HX2 := Lib.hid (show wa.heap[qb]? = some (.cells #[.int .i64 q.lv, .float .f64 q.s, .float .f64 q.a] 64 (0, 0)) by rw [hwa, hqb]; exact blk_new wr _)
      clear hwa hqb x0 x1 x2
      have x0 := blk_cell HX2.out 0
      by_cases he : q.lv = (i : Int)
      · have e1 : (q.lv == (i : Int)) = true := beq_iff_eq.2 he
        have HE := Lib.hid (show r = true by rw [HRR.out]; exact decide_eq_true (HP.out.1 ⟨q, HMQ.out, he⟩).2)
        clear he
        go_wp2_with fail
        rw [HQ.out]
        exact ⟨by rw [HE.out]; rfl, below_step HB2.out HBA.out⟩
      · have e1 : (q.lv == (i : Int)) = false := beq_eq_false_iff_ne.2 he
        have HE := Lib.hid he
        clear he
        go_wp2_with fail
        go_roundg (gk - 1)
        case measure => exact HGK.out.1
        case rel =>
          refine ⟨HBA.out, j + 1, HWR.out, ⟨HGK.out.2, fun x hx => ?_⟩⟩
          rw [HTK.out] at hx
          rcases List.mem_append.1 hx with h | h
          · exact HIN.out x h
          · rw [List.mem_singleton.1 h]; exact HE.out
    · have d1 : decide ((j : Int) < (n : Int)) = false := decide_eq_false (by omega)
      have dn : decide (j < n) = false := decide_eq_false hj
      have HE := Lib.hid (show r = false by
        have h := HI.out.2
        rw [List.take_of_length_le (by have := HN.out; omega)] at h
        rw [HRR.out]
        refine decide_eq_false (fun h1 => ?_)
        obtain ⟨q, hq, e⟩ := HP.out.2 ⟨by rw [List.length_map]; exact HI0.out, h1⟩
        exact h q hq e)
      clear hj HI
      go_wp2_with fail
      rw [HQ.out]
      exact ⟨by rw [HE.out]; rfl, below_step HB2.out HBR.out⟩
end Go.Proofs.YtnineoajmgneiaaGreat.Pd
