/- The matches left: the walk of spec.Left. -/
import Derived.Test.YtnoolgbbpekomaaGreatDoorPc
import Derived.Test.YtnoolgbbpekomaaGreatDoorPf
namespace Go.Proofs.YtnoolgbbpekomaaGreatDoor.Wl
open Go.RowKit YtnoolgbbpekomaaGreatDoorW.PrintWords YtnoolgbbpekomaaGreatDoorW.PrintLast YtnoolgbbpekomaaGreatDoorW.PrintMore T Em Pa Pb Pc
set_option linter.unusedVariables false
set_option linter.unusedSimpArgs false
/-- One way and one number. -/
def eqM (x m : S42) : Bool := decide (x.f3 = m.f3) && decide (wayM x = wayM m)
def keepM (m : S42) (l : List S42) : List S42 := l.filter fun x => !eqM x m
def stepS (L : List S42) (m : S42) : List S42 := if m.f0 = true then keepM m L else L ++ [m]
/-- The matches left. -/
def leftM (l : List S42) : List S42 := l.foldl stepS []
theorem leftM_snoc (l : List S42) (m : S42) : leftM (l ++ [m]) = stepS (leftM l) m := by unfold leftM; rw [List.foldl_append]; rfl
theorem stepS_mem {L : List S42} {m x : S42} (h : x ∈ stepS L m) : x ∈ L ∨ x = m := by
  unfold stepS at h
  split at h
  · exact .inl (List.mem_filter.1 h).1
  · rcases List.mem_append.1 h with h | h
    · exact .inl h
    · exact .inr (List.mem_singleton.1 h)
theorem leftM_mem (l : List S42) : ∀ x ∈ leftM l, x ∈ l := by
  have go : ∀ (t L : List S42), ∀ x ∈ t.foldl stepS L, x ∈ L ∨ x ∈ t := by
    intro t
    induction t with
    | nil => intro L x hx; exact .inl hx
    | cons m t ih =>
      intro L x hx
      rw [List.foldl_cons] at hx
      rcases ih _ x hx with h | h
      · rcases stepS_mem h with h | h
        · exact .inl h
        · exact .inr (h ▸ List.mem_cons_self)
      · exact .inr (List.mem_cons_of_mem _ h)
  intro x hx
  exact (go l [] x hx).elim (fun h => absurd h (List.not_mem_nil)) id
theorem leftM_len (l : List S42) : (leftM l).length ≤ l.length := by
  have go : ∀ (t L : List S42), (t.foldl stepS L).length ≤ L.length + t.length := by
    intro t
    induction t with
    | nil => intro L; simp
    | cons m t ih =>
      intro L
      rw [List.foldl_cons, List.length_cons]
      have := ih (stepS L m)
      have h2 : (stepS L m).length ≤ L.length + 1 := by
        unfold stepS keepM
        split
        · have := List.length_filter_le (fun x => !eqM x m) L; omega
        · simp
      omega
  have := go l []
  unfold leftM
  simpa using this
theorem keepM_take {m : S42} {L : List S42} {j : Nat} (h : j < L.length) : keepM m (L.take (j + 1)) = keepM m (L.take j) ++ (if eqM L[j] m = true then [] else [L[j]]) := by
  unfold keepM
  rw [List.take_succ_eq_append_getElem h, List.filter_append]
  congr 1
  by_cases he : eqM L[j] m = true <;> simp [he]
def BoxM (wr : World) (b0 : Bool) (m : S42) (A2 : Option Addr) (c2 : Nat) (v7 : Value) (wc : World) : Prop :=
  ∃ b, v7 = .pointer (some ⟨b, 0, none⟩) ∧ wc.heap[b]? = some (.cells #[.bool b0, .string m.f1, .slice A2 m.f2.length c2, .int .i64 m.f3] 42 (0, 0)) ∧ Below wr.heap.size wr wc
theorem boxM (wr : World) (b0 : Bool) (m : S42) (A2 : Option Addr) (c2 : Nat) : BoxM wr b0 m A2 c2 (.pointer (some ⟨wr.heap.size, 0, none⟩)) (wr.alloc (.cells #[.bool b0, .string m.f1, .slice A2 m.f2.length c2, .int .i64 m.f3] 42)) :=
  ⟨_, rfl, blk_new _ _, below_alloc (Below.refl _ _) _⟩
set_option maxRecDepth 100000 in
set_option maxHeartbeats 8000000 in
theorem left_calls {w : World} {A0 : Option Addr} {c0 : Nat} {l0 : List S42} (hC0 : Kd.C k42 w A0 l0.length l0) (hc0 : l0.length ≤ c0) (hs : Small l0) :
    Calls Tryz.prog 34 #[.slice A0 l0.length c0] w fun e w' => ∃ v, e = .returned v ∧ Kd.N k42 42 w' w.heap.size (fun _ => True) v (leftM l0) ∧ Below w.heap.size w w' := by
  have hmax : l0.length ≤ 10000000 := hs.len
  have HF := Lib.hid (Kd.C_F k42_heap hC0)
  have HS := Lib.hid hs
  have HB0 := Lib.hid (Below.refl w.heap.size w)
  clear hC0 hs
  go_enter Tryz.func34, Tryz.ntmps34
  go_wp2_with (first | ((with_reducible refine gate_dst (N := 9) rfl ?_); refine Kd.N_lit k42 w.heap.size 42 ?hg (N' := 9) ?hd (xs := ([] : List S42)) (inner := []) (ok := fun _ => True) (okp := fun _ => True) ?hr (Reps.none _ _) (fun _ hk => hk) trivial HB0.out HB0.out.size (by simp) ?_; (case hd => rfl); (case hg => rfl); (case hr => first | (go_simp; done) | (go_simp; rfl)); intro v22 w5 hn hb hg_ hat_; have HN0 := Lib.hid hn; have HB5 := Lib.hid hb; clear hn hb hg_ hat_))
  go_loopg [3, 12] l0.length (fun kq v3 v12 w' => ∃ i : Nat, v12 = .int .i64 (i : Int) ∧ Aside0 (i + kq = l0.length) ∧ Aside0 (Kd.N k42 42 w' w.heap.size (fun _ => True) v3 (leftM (l0.take i))) ∧ Aside0 (Below w.heap.size w w'))
  case atStart => exact ⟨0, rfl, ⟨by omega⟩, ⟨HN0.out⟩, ⟨HB5.out⟩⟩
  case round =>
    obtain ⟨i, rfl, HI, HN, HB⟩ := hrel
    clear HN0 HB5 HB0
    by_cases hi : i < l0.length
    · have d1 : decide ((i : Int) < (l0.length : Int)) = true := decide_eq_true (by omega)
      obtain ⟨ad, c, hA, hcl, hFK, hcc, hin⟩ := Kd.F_get (Kd.F_below HF.out HB.out) z42 (i : Int) (by omega) (by omega)
      have hz : l0.getD ((i : Int)).toNat z42 = l0[i] := by simp [hi]
      rw [hz] at hFK
      obtain ⟨A2, c2, rfl, hl2, hF2⟩ := k42_openF hFK
      subst hA
      have hx0 := hcc 0 _ rfl
      have hx1 := hcc 1 _ rfl
      have hx2 := hcc 2 _ rfl
      have hx3 := hcc 3 _ rfl
      have hsz : k42.sz = 4 := rfl
      rw [hsz, Int.toNat_natCast] at hx0 hx1 hx2 hx3
      rw [Nat.add_zero] at hx0
      rw [add_field _ _ 1 (by omega)] at hx1
      rw [add_field _ _ 2 (by omega)] at hx2
      rw [add_field _ _ 3 (by omega)] at hx3
      have htk : leftM (l0.take (i + 1)) = stepS (leftM (l0.take i)) l0[i] := by rw [List.take_succ_eq_append_getElem hi, leftM_snoc]
      have hLl : (leftM (l0.take i)).length ≤ 10000000 := by have := leftM_len (l0.take i); rw [List.length_take] at this; omega
      have hLm : ∀ x ∈ leftM (l0.take i), x ∈ l0 := fun x hx => List.mem_of_mem_take (leftM_mem _ x hx)
      have hml : l0[i] ∈ l0 := List.getElem_mem hi
      generalize l0[i] = m at *
      obtain ⟨b0, hb0⟩ : ∃ b0, b0 = m.f0 := ⟨_, rfl⟩
      rw [← hb0] at hFK hx0
      have HM0 := Lib.hid hb0
      have HFK := Lib.hid hFK
      have HF2 := Lib.hid hF2
      have HL2 := Lib.hid hl2
      have HTK := Lib.hid htk
      have HLM := Lib.hid hLm
      have HML := Lib.hid hml
      clear hcc hin hFK hF2 hcl hz htk hLm hml hb0 hl2
      go_upto_region 4 with (fail)
      go_cut [5] (fun v7 wc => BoxM wr b0 m A2 c2 v7 wc)
      case first =>
        go_wp2_with fail
        go_meet
        case rel => exact boxM wr b0 m A2 c2
      case rest =>
        obtain ⟨b7, rfl, hb7, hbw⟩ := hcut
        clear hx0 hx1 hx2 hx3
        have hq0 := blk_cell hb7 0
        have hq1 := blk_cell hb7 1
        have hq2 := blk_cell hb7 2
        have hq3 := blk_cell hb7 3
        have HFW := Lib.hid (Kd.FK_below HFK.out hbw)
        have HF2W := Lib.hid (Kd.F_below HF2.out hbw)
        have HNW := Lib.hid (Kd.N_below HN.out hbw)
        have HBW := Lib.hid (below_step HB.out hbw)
        have HB7 := Lib.hid hb7
        clear hbw hb7 HFK HF2 HN HB
        cases b0 with
        | false =>
          go_wp2_with (first | ((with_reducible refine gate_builtin (b := .append) (xs := #[.tmp 19, .tmp 21]) rfl ?_); at_builtin; refine Kd.N_append k42 (w0 := w) w.heap.size rfl (.tmp 19) (.tmp 21) 34 42 (.agg #[(.bool false), (.string ⟨#[]⟩), (.slice none 0 0), (.int .i64 0)]) 56 rfl Tryz.underlying34 info42 rfl (by decide) (by omega) u3 (leftM (l0.take i)) m [.bool false, .string m.f1, .slice A2 m.f2.length c2, .int .i64 m.f3] (fun _ => True) (fun k => k < w.heap.size) rfl rfl ?aP ?hokp (fun _ _ => trivial) HNW.out HBW.out HBW.out.size ?hl ?_; (case aP => exact HFW.out); (case hokp => exact fun k hk => ⟨trivial, fun e => absurd (Kd.N_base HNW.out k e.symm) (by omega)⟩); (case hl => exact show ((leftM (l0.take i)).length + 1) * 56 ≤ 140737488355328 by omega); intro v6 w6 ho hb hg hat; have HO6 := Lib.hid ho; have HB6 := Lib.hid hb; clear ho hb hg hat))
          go_roundg (gk - 1)
          case measure => have := HI.out; omega
          case rel =>
            refine ⟨i + 1, rfl, ⟨by have := HI.out; omega⟩, ⟨?_⟩, ⟨HB6.out⟩⟩
            rw [HTK.out]
            unfold stepS
            rw [← HM0.out, if_neg Bool.false_ne_true]
            exact HO6.out
        | true =>
          generalize wc = we at *
          obtain ⟨L, hL⟩ : ∃ L, L = leftM (l0.take i) := ⟨_, rfl⟩
          rw [← hL] at hLl HTK HLM HNW
          clear hL
          obtain ⟨A3, c3, e3⟩ := Kd.N_slice HNW.out
          subst e3
          have HFL := Lib.hid (Kd.F_mono (Kd.F_bound (Kd.N_F HNW.out)) (ok' := fun k => k < we.heap.size) (fun k hk => hk.2))
          have HZ := Lib.hid (Below.refl we.heap.size we)
          obtain ⟨g, hg⟩ : ∃ g, g = gk - 1 := ⟨_, rfl⟩
          have HG := Lib.hid (show i + 1 + g = l0.length ∧ g < gk by have := HI.out; omega)
          clear hg HNW HI
          go_wp2_with (first | ((with_reducible refine gate_dst (N := 23) rfl ?_); refine Kd.N_lit k42 we.heap.size 42 ?hg (N' := 23) ?hd (xs := ([] : List S42)) (inner := []) (ok := fun _ => True) (okp := fun _ => True) ?hr (Reps.none _ _) (fun _ hk => hk) trivial HZ.out HZ.out.size (by simp) ?_; (case hd => rfl); (case hg => rfl); (case hr => first | (go_simp; done) | (go_simp; rfl)); intro v23 w6 hn hb hg_ hat_; have HN0 := Lib.hid hn; have HB5 := Lib.hid hb; clear hn hb hg_ hat_))
          go_loopg [6, 26] L.length (fun kq v6 v26 w' => ∃ j : Nat, v26 = .int .i64 (j : Int) ∧ Aside0 (j + kq = L.length) ∧ Aside0 (Kd.N k42 42 w' we.heap.size (fun _ => True) v6 (keepM m (L.take j))) ∧ Aside0 (Below we.heap.size we w'))
          case atStart => exact ⟨0, rfl, ⟨by omega⟩, ⟨HN0.out⟩, ⟨HB5.out⟩⟩
          case round =>
            obtain ⟨j, rfl, HJ, HN, HB⟩ := hrel
            clear HN0 HB5 HZ
            by_cases hj : j < L.length
            · have d2 : decide ((j : Int) < (L.length : Int)) = true := decide_eq_true (by omega)
              obtain ⟨ad3, c, hA, hcl, hFK, hcc, hin⟩ := Kd.F_get (Kd.F_below HFL.out HB.out) z42 (j : Int) (by omega) (by omega)
              have hz : L.getD ((j : Int)).toNat z42 = L[j] := by simp [hj]
              rw [hz] at hFK
              obtain ⟨Ax, cx, rfl, hlx, hFx⟩ := k42_openF hFK
              subst hA
              have hx0 := hcc 0 _ rfl
              have hx1 := hcc 1 _ rfl
              have hx2 := hcc 2 _ rfl
              have hx3 := hcc 3 _ rfl
              have hsz : k42.sz = 4 := rfl
              rw [hsz, Int.toNat_natCast] at hx0 hx1 hx2 hx3
              rw [Nat.add_zero] at hx0
              rw [add_field _ _ 1 (by omega)] at hx1
              rw [add_field _ _ 2 (by omega)] at hx2
              rw [add_field _ _ 3 (by omega)] at hx3
              have htk := keepM_take (m := m) hj
              have hkl : (keepM m (L.take j)).length ≤ 10000000 := by
                unfold keepM
                have h1 := List.length_filter_le (fun x => !eqM x m) (L.take j)
                rw [List.length_take] at h1
                omega
              have hxl : L[j] ∈ l0 := HLM.out _ (List.getElem_mem hj)
              generalize L[j] = x at *
              obtain ⟨k30, e30⟩ := Ev.rounds (path_ev x m (by have := HS.out.pre x hxl; omega) (by have := HS.out.sp x hxl; omega) (by have := HS.out.sp m HML.out; omega))
              rw [← HM0.out] at e30
              have E30 := Lib.hid e30
              have HFK := Lib.hid hFK
              have HFX := Lib.hid hFx
              have HLX := Lib.hid hlx
              have HTJ := Lib.hid htk
              have HKL := Lib.hid hkl
              clear hcc hin hFK hFx hcl hz htk hkl hxl e30 hlx hq0 hq1 hq2 hq3
              go_upto_region 10 with (fail)
              go_cut [8] (fun v7 wc => BoxM wr x.f0 x Ax cx v7 wc)
              case first =>
                go_wp2_with fail
                go_meet
                case rel => exact boxM wr x.f0 x Ax cx
              case rest =>
                obtain ⟨b8, rfl, hb8, hbx⟩ := hcut
                clear hx0 hx1 hx2 hx3
                have hq0 := blk_cell hb8 0
                have hq1 := blk_cell hb8 1
                have hq2 := blk_cell hb8 2
                have hq3 := blk_cell hb8 3
                have HBX := Lib.hid (below_step HB.out hbx)
                have hb7 : wc.heap[b7]? = _ := (HBX.out.block b7 (Array.getElem?_eq_some_iff.1 HB7.out).1).trans HB7.out
                have hp0 := blk_cell hb7 0
                have hp1 := blk_cell hb7 1
                have hp2 := blk_cell hb7 2
                have hp3 := blk_cell hb7 3
                have HFXW := Lib.hid (Kd.FK_below HFK.out hbx)
                have HFX2 := Lib.hid (Kd.F_below HFX.out hbx)
                have HNX := Lib.hid (Kd.N_below HN.out hbx)
                have HFM2 := Lib.hid (Kd.F_below HF2W.out HBX.out)
                have HB8 := Lib.hid hb8
                clear hbx hb7 HFK HFX HN HB hb8
                by_cases hne : x.f3 = m.f3
                · have d3 : (x.f3 != m.f3) = false := by simp [hne]
                  generalize hr : decide (wayM x = wayM m) = r at *
                  have HEQ := Lib.hid (show eqM x m = r by unfold eqM; rw [hr, decide_eq_true hne, Bool.true_and])
                  have HR := Lib.hid hr
                  have HNE := Lib.hid hne
                  clear hr hne
                  go_wp2_with fail
                  refine (spec_SamePath.calls k30 x.f0 x.f1 Ax cx x.f2 x.f3 true m.f1 A2 c2 m.f2 m.f3 r _ (Kd.F_now HFX2.out) HLX.out (Kd.F_now HFM2.out) HL2.out E30.out).mono ?_
                  rintro e w9 ⟨rfl, hb⟩
                  have HBY := Lib.hid (below_step HBX.out hb)
                  have HNY := Lib.hid (Kd.N_below HNX.out hb)
                  have HFY := Lib.hid (Kd.FK_below HFXW.out hb)
                  have hb8 : w9.heap[b8]? = _ := (hb.block b8 (Array.getElem?_eq_some_iff.1 HB8.out).1).trans HB8.out
                  clear hq0 hq1 hq2 hq3 hp0 hp1 hp2 hp3
                  have hq0 := blk_cell hb8 0
                  have hq1 := blk_cell hb8 1
                  have hq2 := blk_cell hb8 2
                  have hq3 := blk_cell hb8 3
                  clear hb hb8 HNX HBX HFXW
                  cases r with
                  | true =>
                    go_wp2_with fail
                    go_roundg (gk - 1)
                    case measure => have := HJ.out; omega
                    case rel =>
                      refine ⟨j + 1, rfl, ⟨by have := HJ.out; omega⟩, ⟨?_⟩, ⟨HBY.out⟩⟩
                      rw [HTJ.out, HEQ.out, if_pos rfl, List.append_nil]
                      exact HNY.out
                  | false =>
                    go_wp2_with (first | ((with_reducible refine gate_builtin (b := .append) (xs := #[.tmp 41, .tmp 43]) rfl ?_); at_builtin; refine Kd.N_append k42 (w0 := we) we.heap.size rfl (.tmp 41) (.tmp 43) 34 42 (.agg #[(.bool false), (.string ⟨#[]⟩), (.slice none 0 0), (.int .i64 0)]) 56 rfl Tryz.underlying34 info42 rfl (by decide) (by omega) u6 (keepM m (L.take j)) x [.bool x.f0, .string x.f1, .slice Ax x.f2.length cx, .int .i64 x.f3] (fun _ => True) (fun k => k < we.heap.size) rfl rfl ?aP ?hokp (fun _ _ => trivial) HNY.out HBY.out HBY.out.size ?hl ?_; (case aP => exact HFY.out); (case hokp => exact fun k hk => ⟨trivial, fun e => absurd (Kd.N_base HNY.out k e.symm) (by omega)⟩); (case hl => exact by have := HKL.out; omega); intro v7b w7b ho hb hg hat; have HO7b := Lib.hid ho; have HB7b := Lib.hid hb; clear ho hb hg hat))
                    go_roundg (gk - 1)
                    case measure => have := HJ.out; omega
                    case rel =>
                      refine ⟨j + 1, rfl, ⟨by have := HJ.out; omega⟩, ⟨?_⟩, ⟨HB7b.out⟩⟩
                      rw [HTJ.out, HEQ.out, if_neg Bool.false_ne_true]
                      exact HO7b.out
                · have d3 : (x.f3 != m.f3) = true := by simp [hne]
                  have HEQ := Lib.hid (show eqM x m = false by unfold eqM; rw [decide_eq_false hne, Bool.false_and])
                  have HNE := Lib.hid hne
                  clear hne hp0 hp1 hp2
                  go_wp2_with (first | ((with_reducible refine gate_builtin (b := .append) (xs := #[.tmp 41, .tmp 43]) rfl ?_); at_builtin; refine Kd.N_append k42 (w0 := we) we.heap.size rfl (.tmp 41) (.tmp 43) 34 42 (.agg #[(.bool false), (.string ⟨#[]⟩), (.slice none 0 0), (.int .i64 0)]) 56 rfl Tryz.underlying34 info42 rfl (by decide) (by omega) u6 (keepM m (L.take j)) x [.bool x.f0, .string x.f1, .slice Ax x.f2.length cx, .int .i64 x.f3] (fun _ => True) (fun k => k < we.heap.size) rfl rfl ?aP ?hokp (fun _ _ => trivial) HNX.out HBX.out HBX.out.size ?hl ?_; (case aP => exact HFXW.out); (case hokp => exact fun k hk => ⟨trivial, fun e => absurd (Kd.N_base HNX.out k e.symm) (by omega)⟩); (case hl => exact by have := HKL.out; omega); intro v7b w7b ho hb hg hat; have HO7b := Lib.hid ho; have HB7b := Lib.hid hb; clear ho hb hg hat))
                  go_roundg (gk - 1)
                  case measure => have := HJ.out; omega
                  case rel =>
                    refine ⟨j + 1, rfl, ⟨by have := HJ.out; omega⟩, ⟨?_⟩, ⟨HB7b.out⟩⟩
                    rw [HTJ.out, HEQ.out, if_neg Bool.false_ne_true]
                    exact HO7b.out
            · have d2 : decide ((j : Int) < (L.length : Int)) = false := decide_eq_false (by omega)
              have hn := HN.out
              rw [List.take_of_length_le (by omega)] at hn
              have HN2 := Lib.hid hn
              clear hn HN
              go_wp2_with fail
              go_roundg g
              case measure => exact HG.out.2
              case rel =>
                refine ⟨i + 1, rfl, ⟨HG.out.1⟩, ⟨?_⟩, ⟨below_step HBW.out HB.out⟩⟩
                rw [HTK.out]
                unfold stepS
                rw [← HM0.out, if_pos rfl]
                exact Kd.N_lower HN2.out HBW.out.size
    · have d1 : decide ((i : Int) < (l0.length : Int)) = false := decide_eq_false (by omega)
      have hn := HN.out
      rw [List.take_of_length_le (by omega)] at hn
      have HN2 := Lib.hid hn
      clear hn HN
      go_wp2_with fail
      go_ret
      exact ⟨_, rfl, HN2.out, HB.out⟩
end Go.Proofs.YtnoolgbbpekomaaGreatDoor.Wl
