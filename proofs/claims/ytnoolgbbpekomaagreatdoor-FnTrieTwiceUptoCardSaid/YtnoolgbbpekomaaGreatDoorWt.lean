/- FnTrieTwice: the walk. -/
import Derived.Test.YtnoolgbbpekomaaGreatDoorPr
import Derived.Test.YtnoolgbbpekomaaGreatDoorPc
import Derived.Test.YtnoolgbbpekomaaGreatDoorPo
namespace Go.Proofs.YtnoolgbbpekomaaGreatDoor.Wt
open Go.RowKit YtnoolgbbpekomaaGreatDoorW.PrintWords YtnoolgbbpekomaaGreatDoorW.PrintLast YtnoolgbbpekomaaGreatDoorW.PrintMore T Em Pa Pb Pc
set_option linter.unusedVariables false
set_option linter.unusedSimpArgs false
/-- Each twice. -/
def twos (l : List S42) : List S42 := l.flatMap fun m => [m, m]
theorem twos_snoc (l : List S42) (m : S42) : twos (l ++ [m]) = twos l ++ [m, m] := by simp [twos]
theorem twos_len (l : List S42) : (twos l).length = 2 * l.length := by
  induction l with
  | nil => rfl
  | cons m t ih => simp only [twos, List.flatMap_cons, List.length_append, List.length_cons, List.length_nil] at *; omega
def BoxM (wr : World) (m : S42) (A2 : Option Addr) (c2 : Nat) (v7 : Value) (wc : World) : Prop :=
  ∃ b, v7 = .pointer (some ⟨b, 0, none⟩) ∧ wc.heap[b]? = some (.cells #[.bool m.f0, .string m.f1, .slice A2 m.f2.length c2, .int .i64 m.f3] 42 (0, 0)) ∧ Below wr.heap.size wr wc
theorem boxM (wr : World) (m : S42) (A2 : Option Addr) (c2 : Nat) : BoxM wr m A2 c2 (.pointer (some ⟨wr.heap.size, 0, none⟩)) (wr.alloc (.cells #[.bool m.f0, .string m.f1, .slice A2 m.f2.length c2, .int .i64 m.f3] 42)) :=
  ⟨_, rfl, blk_new _ _, below_alloc (Below.refl _ _) _⟩
set_option maxRecDepth 100000 in
set_option maxHeartbeats 4000000 in
theorem twice_calls {w : World} {A0 A1 : Option Addr} {c0 c1 : Nat} {l0 : List S42} {l1 : List ByteArray} (hC0 : Kd.C k42 w A0 l0.length l0) (hc0 : l0.length ≤ c0) (hC1 : Kd.C Kd.string w A1 l1.length l1) (hc1 : l1.length ≤ c1) (hl : Pi.Laid w) (hs : Small l0) (hk : Keys l1)
    {r1 r2 : List (List Int)} (hok : l0.all mOk = true) (hr1 : ∃ k, laws_of.f k l0 l1 = some r1) (hr2 : ∃ k, laws_of.f k (twos l0) l1 = some r2) (hlen : r1.length = l1.length) (hsame : ∃ k, laws_sameRows.f k r1 r2 = some true) :
    Calls Tryz.prog 14 #[.slice A0 l0.length c0, .slice A1 l1.length c1] w fun e w' => e = .returned (.bool true) ∧ Below w.heap.size w w' := by
  obtain ⟨k22, e22⟩ := Ev.rounds (fit3_ev l0 hs)
  obtain ⟨k23, e23⟩ := Ev.rounds (fit5_ev l1 hk)
  obtain ⟨k24, e24⟩ := Ev.rounds (matches_ev l0 hs)
  rw [hok] at e24
  obtain ⟨k26, e26⟩ := hr1
  obtain ⟨k27, e27⟩ := hr2
  obtain ⟨k31, e31⟩ := hsame
  have hmax : l0.length ≤ 10000000 := hs.len
  have H22 := Lib.hid (laws_zzFits3.calls k22 A0 c0 l0 true w hC0 hc0 e22)
  have HF := Lib.hid (Kd.C_F k42_heap hC0)
  have H0 := Lib.hid hC0
  have H1 := Lib.hid hC1
  have HL := Lib.hid hl
  have E23 := Lib.hid e23
  have E24 := Lib.hid e24
  have E26 := Lib.hid e26
  have E27 := Lib.hid e27
  have E31 := Lib.hid e31
  have HLEN := Lib.hid hlen
  clear hC0 hC1 hl hs hk e22 e23 e24 e26 e27 e31 hok hlen
  go_enter Tryz.func14, Tryz.ntmps14
  go_wp2_with fail
  refine H22.out.mono ?_
  rintro e w2 ⟨rfl, hb⟩
  have HB := Lib.hid hb
  clear hb H22
  go_wp2_with fail
  refine (laws_zzFits5.calls k23 A1 c1 l1 true _ (Kd.C_below H1.out HB.out) hc1 E23.out).mono ?_
  rintro e w3 ⟨rfl, hb⟩
  have HB2 := Lib.hid (below_step HB.out hb.below)
  clear hb HB
  go_wp2_with fail
  refine (spec_MatchesOk.calls k24 A0 c0 l0 _ _ (Kd.C_below H0.out HB2.out) hc0 E24.out).mono ?_
  rintro e w4 ⟨rfl, hb⟩
  have HB := Lib.hid (below_step HB2.out hb)
  clear hb HB2
  go_wp2_with (first | ((with_reducible refine gate_dst (N := 22) rfl ?_); refine Kd.N_lit k42 w.heap.size 42 ?hg (N' := 22) ?hd (xs := ([] : List S42)) (inner := []) (ok := fun _ => True) (okp := fun _ => True) ?hr (Reps.none _ _) (fun _ hk => hk) trivial HB.out HB.out.size (by simp) ?_; (case hd => rfl); (case hg => rfl); (case hr => first | (go_simp; done) | (go_simp; rfl)); intro v22 w5 hn hb hg_ hat_; have HN0 := Lib.hid hn; have HB5 := Lib.hid hb; clear hn hb hg_ hat_ HB))
  go_loopg [5, 25] l0.length (fun kq v5 v25 w' => ∃ i : Nat, v25 = .int .i64 (i : Int) ∧ Aside0 (i + kq = l0.length) ∧ Aside0 (Kd.N k42 42 w' w.heap.size (fun _ => True) v5 (twos (l0.take i))) ∧ Aside0 (Below w.heap.size w w'))
  case atStart => exact ⟨0, rfl, ⟨by omega⟩, ⟨HN0.out⟩, ⟨HB5.out⟩⟩
  case round =>
    obtain ⟨i, rfl, HI, HN, HB⟩ := hrel
    clear HN0 HB5
    by_cases hi : i < l0.length
    · have d1 : decide ((i : Int) < (l0.length : Int)) = true := decide_eq_true (by omega)
      have hi2 : i + 1 + (gk - 1) = l0.length := by have := HI.out; omega
      obtain ⟨ad, c, hA, hcl, hFK, hcc, hin⟩ := Kd.F_get (Kd.F_below HF.out HB.out) z42 (i : Int) (by omega) (by omega)
      have hz : l0.getD ((i : Int)).toNat z42 = l0[i] := by simp [hi]
      rw [hz] at hFK
      obtain ⟨A2, c2, rfl, hl2, hF2⟩ := k42_openF hFK
      subst hA
      have hx0 := hcc 0 _ rfl
      have hx1 := hcc 1 _ rfl
      have hx2 := hcc 2 _ rfl
      have hx3 := hcc 3 _ rfl
      have hsz : k42.sz = 4 := rfl
      rw [hsz, Int.toNat_natCast] at hx0 hx1 hx2 hx3
      rw [Nat.add_zero] at hx0
      rw [add_field _ _ 1 (by omega)] at hx1
      rw [add_field _ _ 2 (by omega)] at hx2
      rw [add_field _ _ 3 (by omega)] at hx3
      have HFK := Lib.hid hFK
      clear hcc hin hFK hF2 hcl hz
      obtain ⟨m, hm⟩ : ∃ m, m = l0[i] := ⟨_, rfl⟩
      rw [← hm] at hx0 hx1 hx2 hx3
      have HM := Lib.hid hm
      have HX := Lib.hid hl2
      clear hm hl2
      go_upto_region 8 with (fail)
      go_cut [7] (fun v7 wc => BoxM wr m A2 c2 v7 wc)
      case first =>
        go_wp2_with fail
        go_meet
        case rel => exact boxM wr m A2 c2
      case rest =>
        obtain ⟨b7, rfl, hb7, hbw⟩ := hcut
        clear hx0 hx1 hx2 hx3
        have hq0 := blk_cell hb7 0
        have hq1 := blk_cell hb7 1
        have hq2 := blk_cell hb7 2
        have hq3 := blk_cell hb7 3
        have hfk := HFK.out
        rw [← HM.out] at hfk
        have HFW := Lib.hid (Kd.FK_below hfk hbw)
        have HNW := Lib.hid (Kd.N_below HN.out hbw)
        have HBW := Lib.hid (below_step HB.out hbw)
        have HTL := Lib.hid (show (twos (l0.take i)).length ≤ 20000000 by rw [twos_len, List.length_take]; omega)
        clear hfk hbw hb7 HFK HN HB
        go_wp2_with (first | ((with_reducible refine gate_dst (N := 32) rfl ?_); refine Kd.N_lit k42 w.heap.size 42 ?hg (N' := 32) ?hd (xs := [m, m]) (inner := [.bool m.f0, .string m.f1, .slice A2 m.f2.length c2, .int .i64 m.f3, .bool m.f0, .string m.f1, .slice A2 m.f2.length c2, .int .i64 m.f3]) (ok := fun k => k < w.heap.size ∨ wc.heap.size ≤ k) (okp := fun k => k < w.heap.size) ?hr (Reps.front (c := [.bool m.f0, .string m.f1, .slice A2 m.f2.length c2, .int .i64 m.f3]) HFW.out rfl (Reps.front (c := [.bool m.f0, .string m.f1, .slice A2 m.f2.length c2, .int .i64 m.f3]) HFW.out rfl (Reps.none _ _) rfl) rfl) (fun _ hk => .inl hk) (.inr (Nat.le_refl _)) HBW.out HBW.out.size (by simp) ?_; (case hd => rfl); (case hg => rfl); (case hr => first | (go_simp; done) | (go_simp; rfl)); intro v32 w5 hn hb hg_ hat_; have HV := Lib.hid hn; have HB5 := Lib.hid hb; have HN5 := Lib.hid (Kd.N_grown HNW.out hg_ (fun _ _ => by simp)); have HLT := Lib.hid (Kd.N_lt HNW.out); have HBS := Lib.hid (Kd.N_base HNW.out); clear hn hb hg_ hat_ HNW HBW; obtain ⟨A32, c32, e32⟩ := Kd.N_slice HV.out; subst e32) | ((with_reducible refine gate_builtin (b := .append) (xs := #[.tmp 29, .tmp 32]) rfl ?_); at_builtin; refine Kd.N_append_rows k42 (w0 := w) w.heap.size rfl (.tmp 29) (.tmp 32) 34 42 (.agg #[(.bool false), (.string ⟨#[]⟩), (.slice none 0 0), (.int .i64 0)]) 56 rfl Tryz.underlying34 info42 rfl (by decide) (by omega) u5 (twos (l0.take i)) [m, m] A32 _ c32 (fun _ => True) (fun k => k < w.heap.size ∨ wc.heap.size ≤ k) rfl rfl HN5.out (Kd.N_F HV.out) ?hokp (fun _ _ => trivial) HB5.out HB5.out.size ?hl ?_; (case hokp => exact fun k hk => ⟨trivial, fun e => hk.elim (fun h => absurd (HBS.out k e.symm) (by omega)) (fun h => absurd (HLT.out k e.symm) (by omega))⟩); (case hl => have := HTL.out; simp; omega); intro v33 w6 ho hb hg hat; have HO6 := Lib.hid ho; have HB6 := Lib.hid hb; clear ho hb hg hat))
        go_roundg (gk - 1)
        case measure => have := HI.out; omega
        case rel =>
          refine ⟨i + 1, rfl, ⟨by have := HI.out; omega⟩, ⟨?_⟩, ⟨HB6.out⟩⟩
          have h6 := HO6.out
          rw [← twos_snoc, HM.out, ← List.take_succ_eq_append_getElem hi] at h6
          exact h6
    · have d1 : decide ((i : Int) < (l0.length : Int)) = false := decide_eq_false (by omega)
      have hi2 : i = l0.length := by have := HI.out; omega
      have hn := HN.out
      rw [hi2, List.take_length] at hn
      obtain ⟨A5, c5, e5⟩ := Kd.N_slice hn
      subst e5
      have HN2 := Lib.hid hn
      clear hn HN hi2
      go_wp2_with fail
      refine (laws_of.calls k26 A0 c0 l0 A1 c1 l1 r1 _ (Kd.C_below H0.out HB.out) hc0 (Kd.C_below H1.out HB.out) hc1 (Pi.Laid.below HL.out HB.out) E26.out).mono ?_
      rintro e w7 ⟨v37, rfl, hv, hb⟩
      obtain ⟨A37, c37, e37⟩ := Kd.S_slice hv
      subst e37
      have HN7 := Lib.hid (Kd.N_below HN2.out hb)
      have HV1 := Lib.hid hv
      have HB7 := Lib.hid (below_step HB.out hb)
      clear hv hb HN2 HB
      go_wp2_with fail
      refine (laws_of.calls k27 A5 c5 (twos l0) A1 c1 l1 r2 _ (Kd.N_reads' HN7.out).2.2 (Kd.N_reads' HN7.out).2.1 (Kd.C_below H1.out HB7.out) hc1 (Pi.Laid.below HL.out HB7.out) E27.out).mono ?_
      rintro e w8 ⟨v40, rfl, hv, hb⟩
      obtain ⟨A40, c40, e40⟩ := Kd.S_slice hv
      subst e40
      have HV2 := Lib.hid hv
      have HV3 := Lib.hid (Kd.S_below HV1.out hb)
      have HB8 := Lib.hid (below_step HB7.out hb)
      have hle : ((r1.length : Int) == (l1.length : Int)) = true := beq_iff_eq.mpr (by have := HLEN.out; omega)
      clear hv hb HV1 HB7 HN7
      go_wp2_with fail
      refine (laws_sameRows.calls k31 A37 c37 r1 A40 c40 r2 true _ (Kd.S_reads' HV3.out).2.2 (Kd.S_reads' HV3.out).2.1 (Kd.S_reads' HV2.out).2.2 (Kd.S_reads' HV2.out).2.1 E31.out).mono ?_
      rintro e w9 ⟨rfl, hb⟩
      have HB9 := Lib.hid (below_step HB8.out hb.below)
      clear hb HB8
      go_wp2_with fail
      refine (laws_triesWork.calls 0 true _ (Pi.Laid.below HL.out HB9.out) rfl).mono ?_
      rintro e w10 ⟨rfl, hb⟩
      have HB10 := Lib.hid (below_step HB9.out hb)
      clear hb HB9
      go_wp2_with fail
      go_ret
      exact ⟨rfl, HB10.out⟩
/-- Where the matches are not told of. -/
theorem twice_not {w : World} {A0 A1 : Option Addr} {c0 c1 : Nat} {l0 : List S42} {l1 : List ByteArray} (hC0 : Kd.C k42 w A0 l0.length l0) (hc0 : l0.length ≤ c0) (hC1 : Kd.C Kd.string w A1 l1.length l1) (hc1 : l1.length ≤ c1) (hl : Pi.Laid w) (hs : Small l0) (hk : Keys l1) (hok : l0.all mOk = false) :
    Calls Tryz.prog 14 #[.slice A0 l0.length c0, .slice A1 l1.length c1] w fun e w' => e = .returned (.bool true) ∧ Below w.heap.size w w' := by
  obtain ⟨k22, e22⟩ := Ev.rounds (fit3_ev l0 hs)
  obtain ⟨k23, e23⟩ := Ev.rounds (fit5_ev l1 hk)
  obtain ⟨k24, e24⟩ := Ev.rounds (matches_ev l0 hs)
  rw [hok] at e24
  have H22 := Lib.hid (laws_zzFits3.calls k22 A0 c0 l0 true w hC0 hc0 e22)
  have H0 := Lib.hid hC0
  have H1 := Lib.hid hC1
  have HL := Lib.hid hl
  have E23 := Lib.hid e23
  have E24 := Lib.hid e24
  clear hC0 hC1 hl hs hk e22 e23 e24 hok
  go_enter Tryz.func14, Tryz.ntmps14
  go_wp2_with fail
  refine H22.out.mono ?_
  rintro e w2 ⟨rfl, hb⟩
  have HB := Lib.hid hb
  clear hb H22
  go_wp2_with fail
  refine (laws_zzFits5.calls k23 A1 c1 l1 true _ (Kd.C_below H1.out HB.out) hc1 E23.out).mono ?_
  rintro e w3 ⟨rfl, hb⟩
  have HB2 := Lib.hid (below_step HB.out hb.below)
  clear hb HB
  go_wp2_with fail
  refine (spec_MatchesOk.calls k24 A0 c0 l0 _ _ (Kd.C_below H0.out HB2.out) hc0 E24.out).mono ?_
  rintro e w4 ⟨rfl, hb⟩
  have HB := Lib.hid (below_step HB2.out hb)
  clear hb HB2
  go_wp2_with fail
  refine (laws_triesWork.calls 0 true _ (Pi.Laid.below HL.out HB.out) rfl).mono ?_
  rintro e w5 ⟨rfl, hb⟩
  have HB4 := Lib.hid (below_step HB.out hb)
  go_wp2_with fail
  go_ret
  exact ⟨rfl, HB4.out⟩
end Go.Proofs.YtnoolgbbpekomaaGreatDoor.Wt
