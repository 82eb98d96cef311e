/- FnTrieAll: the walk. -/
import Derived.Test.YtnoolgbbpekomaaGreatDoorPo
import Derived.Test.YtnoolgbbpekomaaGreatDoorPh
namespace Go.Proofs.YtnoolgbbpekomaaGreatDoor.Wa
open Go.RowKit YtnoolgbbpekomaaGreatDoorW.PrintWords YtnoolgbbpekomaaGreatDoorW.PrintLast YtnoolgbbpekomaaGreatDoorW.PrintMore T Em Pa Pb Pc
set_option linter.unusedVariables false
set_option linter.unusedSimpArgs false
/-- What one row more must be. -/
structure Row (n : Int) (a b : List Int) : Prop where
  has2 : ∃ k, spec_Has.f k b n = some true
  sub : ∃ k, laws_within.f k a b = some true
  has1 : ∃ k c, spec_Has.f k a n = some c ∧ (c = false → b.length = a.length + 1)
  len : b.length ≤ a.length + 1
  few : a.length ≤ 1000000000000
set_option maxRecDepth 100000 in
set_option maxHeartbeats 4000000 in
theorem all_calls {w : World} {A0 A2 : Option Addr} {c0 c2 : Nat} {l0 : List S42} {n : Int} {l2 : List ByteArray} (hC0 : Kd.C k42 w A0 l0.length l0) (hc0 : l0.length ≤ c0) (hC2 : Kd.C Kd.string w A2 l2.length l2) (hc2 : l2.length ≤ c2) (hl : Pi.Laid w) (hs : Small l0) (hk : Keys l2)
    (wok : Bool) (hw : spec_Within.f n 0 1099511627776 = some wok)
    {r1 r2 : List (List Int)} (hr1 : l0.all mOk = true → wok = true → ∃ k, laws_of.f k l0 l2 = some r1) (hr2 : l0.all mOk = true → wok = true → ∃ k, laws_of.f k (l0 ++ [(⟨false, ⟨#[]⟩, [], n⟩ : S42)]) l2 = some r2) (hle1 : r1.length = l2.length) (hle2 : r2.length = l2.length)
    (hrow : ∀ i : Nat, i < l2.length → Row n (rd_L8 r1 (i : Int)) (rd_L8 r2 (i : Int))) :
    Calls Tryz.prog 5 #[.slice A0 l0.length c0, .int .i64 n, .slice A2 l2.length c2] w fun e w' => e = .returned (.bool true) ∧ Below w.heap.size w w' := by
  obtain ⟨k22, e22⟩ := Ev.rounds (fit3_ev l0 hs)
  obtain ⟨k23, e23⟩ := Ev.rounds (fit5_ev l2 hk)
  obtain ⟨k24, e24⟩ := Ev.rounds (matches_ev l0 hs)
  have hmax : l0.length ≤ 10000000 := hs.len
  have hkm : l2.length ≤ 1000000000 := hk.len
  have H22 := Lib.hid (laws_zzFits3.calls k22 A0 c0 l0 true w hC0 hc0 e22)
  have HF := Lib.hid (Kd.C_F k42_heap hC0)
  have H0 := Lib.hid hC0
  have H2 := Lib.hid hC2
  have HL := Lib.hid hl
  have E23 := Lib.hid e23
  have E25 := Lib.hid hw
  have HR1 := Lib.hid hr1
  have HR2 := Lib.hid hr2
  have HL1 := Lib.hid hle1
  have HL2 := Lib.hid hle2
  have HRW := Lib.hid hrow
  generalize hmok : l0.all mOk = mok at e24 hr1 hr2
  have E24 := Lib.hid e24
  rw [hmok] at HR1 HR2
  clear hC0 hC2 hl hs hk e22 e23 e24 hw hr1 hr2 hle1 hle2 hrow hmok
  go_enter Tryz.func5, Tryz.ntmps5
  go_wp2_with fail
  refine H22.out.mono ?_
  rintro e w2 ⟨rfl, hb⟩
  have HB := Lib.hid hb
  clear hb H22
  go_wp2_with fail
  refine (laws_zzFits5.calls k23 A2 c2 l2 true _ (Kd.C_below H2.out HB.out) hc2 E23.out).mono ?_
  rintro e w3 ⟨rfl, hb⟩
  have HB2 := Lib.hid (below_step HB.out hb.below)
  clear hb HB
  go_wp2_with fail
  refine (spec_MatchesOk.calls k24 A0 c0 l0 mok _ (Kd.C_below H0.out HB2.out) hc0 E24.out).mono ?_
  rintro e w8 ⟨rfl, hb⟩
  have HB8 := Lib.hid (below_step HB2.out hb)
  clear hb HB2
  cases mok with
  | false =>
    go_wp2_with fail
    refine (laws_triesWork.calls 0 true _ (Pi.Laid.below HL.out HB8.out) rfl).mono ?_
    rintro e w9 ⟨rfl, hb⟩
    have HB9 := Lib.hid (below_step HB8.out hb)
    go_wp2_with fail
    go_ret
    exact ⟨rfl, HB9.out⟩
  | true =>
    go_wp2_with fail
    refine (spec_Within.calls n 0 1099511627776 wok _ E25.out).mono ?_
    rintro e w9 ⟨rfl, hb⟩
    have HB := Lib.hid (below_step HB8.out hb.below)
    clear hb HB8
    cases wok with
    | false =>
      go_wp2_with fail
      refine (laws_triesWork.calls 0 true _ (Pi.Laid.below HL.out HB.out) rfl).mono ?_
      rintro e w10 ⟨rfl, hb⟩
      have HB10 := Lib.hid (below_step HB.out hb)
      go_wp2_with fail
      go_ret
      exact ⟨rfl, HB10.out⟩
    | true =>
      obtain ⟨k26, e26⟩ := HR1.out (by simp) (by simp)
      obtain ⟨k27, e27⟩ := HR2.out (by simp) (by simp)
      have E26 := Lib.hid e26
      have E27 := Lib.hid e27
      clear e26 e27 HR1 HR2
      go_wp2_with fail
      refine (laws_of.calls k26 A0 c0 l0 A2 c2 l2 r1 _ (Kd.C_below H0.out HB.out) hc0 (Kd.C_below H2.out HB.out) hc2 (Pi.Laid.below HL.out HB.out) E26.out).mono ?_
      rintro e w7 ⟨v29, rfl, hv, hb⟩
      obtain ⟨A29, c29, e29⟩ := Kd.S_slice hv
      subst e29
      have HV1 := Lib.hid hv
      have HB2 := Lib.hid (below_step HB.out hb)
      clear hv hb HB
      have HZ := Lib.hid (Below.refl w7.heap.size w7)
      have hwle : w.heap.size ≤ w7.heap.size := HB2.out.size
      go_wp2_with (first | ((with_reducible refine gate_dst (N := 30) rfl ?_); refine Kd.N_lit k42 w7.heap.size 42 ?hg (N' := 30) ?hd (xs := ([] : List S42)) (inner := []) (ok := fun _ => True) (okp := fun _ => True) ?hr (Reps.none _ _) (fun _ hk => hk) trivial HZ.out HZ.out.size (by simp) ?_; (case hd => rfl); (case hg => rfl); (case hr => first | (go_simp; done) | (go_simp; rfl)); intro v31 w5 hn hb hg_ hat_; have HN0 := Lib.hid hn; have HB5 := Lib.hid hb; have HF5 := Lib.hid (Kd.F_below HF.out (below_step HB2.out hb)); clear hn hb hg_ hat_) | ((with_reducible refine gate_builtin (b := .append) (xs := #[.tmp 30, .tmp 31]) rfl ?_); at_builtin; refine Kd.N_append_rows k42 (w0 := w7) w7.heap.size rfl (.tmp 30) (.tmp 31) 34 42 (.agg #[(.bool false), (.string ⟨#[]⟩), (.slice none 0 0), (.int .i64 0)]) 56 rfl Tryz.underlying34 info42 rfl (by decide) (by omega) v31 [] l0 A0 l0.length c0 (fun _ => True) (fun k => k < w.heap.size) rfl rfl HN0.out HF5.out ?hokp (fun _ _ => trivial) HB5.out HB5.out.size ?hl ?_; (case hokp => exact fun k hk => ⟨trivial, fun e => absurd (Kd.N_base HN0.out k e.symm) (by omega)⟩); (case hl => simp; omega); intro v33 w6 ho hb hg hat; have HO6 := Lib.hid ho; have HB6 := Lib.hid hb; clear ho hb hg hat) | ((with_reducible refine gate_builtin (b := .append) (xs := #[.tmp 32, .tmp 35]) rfl ?_); at_builtin; refine Kd.N_append k42 (w0 := w7) w7.heap.size rfl (.tmp 32) (.tmp 35) 34 42 (.agg #[(.bool false), (.string ⟨#[]⟩), (.slice none 0 0), (.int .i64 0)]) 56 rfl Tryz.underlying34 info42 rfl (by decide) (by omega) v33 ([] ++ l0) (⟨false, ⟨#[]⟩, [], n⟩ : S42) [.bool false, .string ⟨#[]⟩, .slice none 0 0, .int .i64 n] (fun _ => True) (fun _ => False) rfl rfl ?aP (fun _ hk => hk.elim) (fun _ _ => trivial) HO6.out HB6.out HB6.out.size ?hl ?_; (case aP => exact k42_mkF _ _ (⟨false, ⟨#[]⟩, [], n⟩ : S42) (A2 := none) (c2 := 0) (Nat.le_refl _) (Kd.F_nil _ _ _)); (case hl => simp; omega); intro v37 w8 ho hb hg hat; have HO7 := Lib.hid ho; have HB7 := Lib.hid hb; clear ho hb hg hat))
      obtain ⟨A37, c37, e37⟩ := Kd.N_slice HO7.out
      subst e37
      have hn37 := HO7.out
      rw [List.nil_append] at hn37
      have HN := Lib.hid hn37
      have HBB := Lib.hid (below_step HB2.out HB7.out)
      have HV3 := Lib.hid (Kd.S_below HV1.out HB7.out)
      clear hn37 HO7 HO6 HN0 HB5 HB6 HZ HF5 HB2 HB7 HV1
      refine (laws_of.calls k27 A37 c37 (l0 ++ [(⟨false, ⟨#[]⟩, [], n⟩ : S42)]) A2 c2 l2 r2 _ (Kd.N_reads' HN.out).2.2 (Kd.N_reads' HN.out).2.1 (Kd.C_below H2.out HBB.out) hc2 (Pi.Laid.below HL.out HBB.out) E27.out).mono ?_
      rintro e w9 ⟨v38, rfl, hv, hb⟩
      obtain ⟨A38, c38, e38⟩ := Kd.S_slice hv
      subst e38
      have HC2 := Lib.hid (Kd.S_reads' hv).2.2
      have HC1 := Lib.hid (Kd.S_reads' (Kd.S_below HV3.out hb)).2.2
      have HB := Lib.hid (below_step HBB.out hb)
      have n1 : ((r1.length : Int) != (l2.length : Int)) = false := by have := HL1.out; simp [this]
      have n2 : ((r2.length : Int) != (l2.length : Int)) = false := by have := HL2.out; simp [this]
      clear hv hb HV3 HN HBB
      go_wp2_with fail
      go_loopg [53] l2.length (fun kq v53 w' => ∃ i : Nat, v53 = .int .i64 (i : Int) ∧ Aside0 (i + kq = l2.length) ∧ Drawn0 w9 w')
      case atStart => exact ⟨0, rfl, ⟨by omega⟩, Drawn0.refl _⟩
      case round =>
        obtain ⟨i, rfl, HI, hdr⟩ := hrel
        obtain ⟨nd, rfl⟩ := hdr
        by_cases hi : i < l2.length
        · have d1 : decide ((i : Int) < (l2.length : Int)) = true := decide_eq_true (by omega)
          have hi2 : i + 1 + (gk - 1) = l2.length := by have := HI.out; omega
          have hw := HRW.out i hi
          obtain ⟨ad1, B1, f1, e1, hx1, hl1, hi1⟩ := at_L8 HC1.out (i : Int) (by omega) (by have := HL1.out; omega)
          obtain ⟨ad2, B2, f2, e2, hx2, hl2, hi2'⟩ := at_L8 HC2.out (i : Int) (by omega) (by have := HL2.out; omega)
          cases e1
          cases e2
          have p0 := eq_true (show 0 ≤ (i : Int) by omega)
          have p1 := eq_true (show (i : Int) < (r1.length : Int) by have := HL1.out; omega)
          have p2 := eq_true (show (i : Int) < (r2.length : Int) by have := HL2.out; omega)
          rw [Int.toNat_natCast] at hx1 hx2
          obtain ⟨⟨kb, hb2⟩, ⟨ks, hsub⟩, ⟨ka, cc, hb1, hcc⟩, hlen, hfew⟩ := hw
          generalize rd_L8 r1 (i : Int) = a at *
          generalize rd_L8 r2 (i : Int) = b at *
          have EB := Lib.hid hb2
          have ES := Lib.hid hsub
          have EA := Lib.hid hb1
          have HA2 := Lib.hid hi1
          have HB2 := Lib.hid hi2'
          have HAc := Lib.hid hl1
          have HBc := Lib.hid hl2
          have hsum : IntKind.i64.wrap ((a.length : Int) + 1) = (a.length : Int) + 1 := IntWalk.i64_in _ (by omega)
          have hsumi : IntKind.i64.wrap ((i : Int) + 1) = ((i + 1 : Nat) : Int) := by rw [IntWalk.i64_in _ (by omega)]; rfl
          have g1 : decide ((a.length : Int) + 1 < (b.length : Int)) = false := decide_eq_false (by omega)
          clear hb2 hsub hb1 hi1 hi2' hl1 hl2 hlen hfew
          cases cc with
          | true =>
            clear hcc
            go_wp2_with (fail)
            repeat (go_quiet (first | (go_at_call 27; (with_reducible refine (spec_Has.calls kb _ _ b n true _ ?side1 ?side2 EB.out).mono ?_); (case side1 => exact XC HB2.out); (case side2 => exact HBc.out); rintro e w' ⟨rfl, ⟨nd, rfl⟩⟩; (try first | exact ⟨rfl, _, World.drewN_drewN _ _ _⟩ | exact ⟨rfl, _, Eq.trans (World.drewN_drewN _ _ _) (congrArg (World.drewN _) (Nat.add_assoc _ _ _))⟩)) | (go_at_call 28; (with_reducible refine (laws_within.calls ks _ _ a _ _ b true _ ?side1 ?side2 ?side3 ?side4 ES.out).mono ?_); (case side1 => exact XC HA2.out); (case side2 => exact HAc.out); (case side3 => exact XC HB2.out); (case side4 => exact HBc.out); rintro e w' ⟨rfl, ⟨nd, rfl⟩⟩; (try first | exact ⟨rfl, _, World.drewN_drewN _ _ _⟩ | exact ⟨rfl, _, Eq.trans (World.drewN_drewN _ _ _) (congrArg (World.drewN _) (Nat.add_assoc _ _ _))⟩)) | (go_at_call 27; (with_reducible refine (spec_Has.calls ka _ _ a n true _ ?side1 ?side2 EA.out).mono ?_); (case side1 => exact XC HA2.out); (case side2 => exact HAc.out); rintro e w' ⟨rfl, ⟨nd, rfl⟩⟩; (try first | exact ⟨rfl, _, World.drewN_drewN _ _ _⟩ | exact ⟨rfl, _, Eq.trans (World.drewN_drewN _ _ _) (congrArg (World.drewN _) (Nat.add_assoc _ _ _))⟩))); try go_wp2_with (fail))
            go_roundg (gk - 1)
            case measure => have := HI.out; omega
            case rel => exact ⟨i + 1, rfl, ⟨by have := HI.out; omega⟩, by repeat (first | exact Drawn0.refl _ | apply Drawn0.step)⟩
          | false =>
            have g2 : ((b.length : Int) != (a.length : Int) + 1) = false := by have := hcc rfl; simp [this]
            clear hcc
            go_wp2_with (fail)
            repeat (go_quiet (first | (go_at_call 27; (with_reducible refine (spec_Has.calls kb _ _ b n true _ ?side1 ?side2 EB.out).mono ?_); (case side1 => exact XC HB2.out); (case side2 => exact HBc.out); rintro e w' ⟨rfl, ⟨nd, rfl⟩⟩; (try first | exact ⟨rfl, _, World.drewN_drewN _ _ _⟩ | exact ⟨rfl, _, Eq.trans (World.drewN_drewN _ _ _) (congrArg (World.drewN _) (Nat.add_assoc _ _ _))⟩)) | (go_at_call 28; (with_reducible refine (laws_within.calls ks _ _ a _ _ b true _ ?side1 ?side2 ?side3 ?side4 ES.out).mono ?_); (case side1 => exact XC HA2.out); (case side2 => exact HAc.out); (case side3 => exact XC HB2.out); (case side4 => exact HBc.out); rintro e w' ⟨rfl, ⟨nd, rfl⟩⟩; (try first | exact ⟨rfl, _, World.drewN_drewN _ _ _⟩ | exact ⟨rfl, _, Eq.trans (World.drewN_drewN _ _ _) (congrArg (World.drewN _) (Nat.add_assoc _ _ _))⟩)) | (go_at_call 27; (with_reducible refine (spec_Has.calls ka _ _ a n false _ ?side1 ?side2 EA.out).mono ?_); (case side1 => exact XC HA2.out); (case side2 => exact HAc.out); rintro e w' ⟨rfl, ⟨nd, rfl⟩⟩; (try first | exact ⟨rfl, _, World.drewN_drewN _ _ _⟩ | exact ⟨rfl, _, Eq.trans (World.drewN_drewN _ _ _) (congrArg (World.drewN _) (Nat.add_assoc _ _ _))⟩))); try go_wp2_with (fail))
            go_roundg (gk - 1)
            case measure => have := HI.out; omega
            case rel => exact ⟨i + 1, rfl, ⟨by have := HI.out; omega⟩, by repeat (first | exact Drawn0.refl _ | apply Drawn0.step)⟩
        · have d1 : decide ((i : Int) < (l2.length : Int)) = false := decide_eq_false (by omega)
          go_wp2_with fail
          refine (laws_triesWork.calls 0 true _ (Pi.Laid.below HL.out (below_step HB.out (show Below w9.heap.size w9 (w9.drewN nd) from Drawn0.below ⟨nd, rfl⟩))) rfl).mono ?_
          rintro e w10 ⟨rfl, hb⟩
          have HB10 := Lib.hid (below_step (below_step HB.out (show Below w9.heap.size w9 (w9.drewN nd) from Drawn0.below ⟨nd, rfl⟩)) hb)
          go_wp2_with fail
          go_ret
          exact ⟨rfl, HB10.out⟩
end Go.Proofs.YtnoolgbbpekomaaGreatDoor.Wa
