/- FnTrieFound: the walk. -/
import Derived.Test.YtnoolgbbpekomaaGreatDoorPo
import Derived.Test.YtnoolgbbpekomaaGreatDoorPr
import Derived.Test.YtnoolgbbpekomaaGreatDoorPg
import Derived.Test.YtnoolgbbpekomaaGreatDoorWl
import Derived.Deep.RegionHeld3
namespace Go.Proofs.YtnoolgbbpekomaaGreatDoor.Wf
open Go.RowKit YtnoolgbbpekomaaGreatDoorW.PrintWords YtnoolgbbpekomaaGreatDoorW.PrintLast YtnoolgbbpekomaaGreatDoorW.PrintMore T Em Pa Pb Pc Wl
set_option linter.unusedVariables false
set_option linter.unusedSimpArgs false
set_option maxRecDepth 100000 in
set_option maxHeartbeats 8000000 in
theorem found_calls {w : World} {A0 A1 : Option Addr} {c0 c1 : Nat} {l0 : List S42} {l1 : List ByteArray} {sp d : Bool} (hC0 : Kd.C k42 w A0 l0.length l0) (hc0 : l0.length ≤ c0) (hC1 : Kd.C Kd.string w A1 l1.length l1) (hc1 : l1.length ≤ c1) (hl : Pi.Laid w) (hs : Small l0) (hk : Keys l1)
    {T : List S64} (hT : l0.all mOk = true → ∃ k, spec_Turns.f k l0 sp d false = some T) {oks : List Bool} {rows : List (List Int)} {nds : Int} (hR : l0.all mOk = true → impl_RunTrie.f T l1 = some (oks, rows, nds)) (ho : oks.length = l0.length) (hot : ∀ i : Nat, i < l0.length → rdOf false oks (i : Int) = true) (hrl : rows.length = l1.length)
    (hrow : ∀ (i : Nat) (h : i < l1.length), (∃ k, spec_Found.f k (leftM l0) l1[i] = some (rd_L8 rows (i : Int))) ∧ ∃ k, laws_sameInts.f k (rd_L8 rows (i : Int)) (rd_L8 rows (i : Int)) = some true) :
    Calls Tryz.prog 7 #[.slice A0 l0.length c0, .slice A1 l1.length c1, .bool sp, .bool d] w fun e w' => e = .returned (.bool true) ∧ Below w.heap.size w w' := by
  obtain ⟨k22, e22⟩ := Ev.rounds (fit3_ev l0 hs)
  obtain ⟨k23, e23⟩ := Ev.rounds (fit5_ev l1 hk)
  obtain ⟨k24, e24⟩ := Ev.rounds (matches_ev l0 hs)
  have hmax : l0.length ≤ 10000000 := hs.len
  have hkm : l1.length ≤ 1000000000 := hk.len
  have H22 := Lib.hid (laws_zzFits3.calls k22 A0 c0 l0 true w hC0 hc0 e22)
  have H0 := Lib.hid hC0
  have H1 := Lib.hid hC1
  have HL := Lib.hid hl
  have HS := Lib.hid hs
  have E23 := Lib.hid e23
  have HT := Lib.hid hT
  have HR := Lib.hid hR
  have HO := Lib.hid ho
  have HOT := Lib.hid hot
  have HRL := Lib.hid hrl
  have HRW := Lib.hid hrow
  generalize hmok : l0.all mOk = mok at e24 hT hR
  have E24 := Lib.hid e24
  rw [hmok] at HT HR
  clear hC0 hC1 hl hs hk e22 e23 e24 hT hR ho hot hrl hrow hmok
  go_enter Tryz.func7, Tryz.ntmps7
  go_wp2_with fail
  refine H22.out.mono ?_
  rintro e w2 ⟨rfl, hb⟩
  have HB := Lib.hid hb
  clear hb H22
  go_wp2_with fail
  refine (laws_zzFits5.calls k23 A1 c1 l1 true _ (Kd.C_below H1.out HB.out) hc1 E23.out).mono ?_
  rintro e w3 ⟨rfl, hb⟩
  have HB2 := Lib.hid (below_step HB.out hb.below)
  clear hb HB
  go_wp2_with fail
  refine (spec_MatchesOk.calls k24 A0 c0 l0 mok _ (Kd.C_below H0.out HB2.out) hc0 E24.out).mono ?_
  rintro e w8 ⟨rfl, hb⟩
  have HB8 := Lib.hid (below_step HB2.out hb)
  clear hb HB2
  cases mok with
  | false =>
    go_wp2_with fail
    refine (laws_triesWork.calls 0 true _ (Pi.Laid.below HL.out HB8.out) rfl).mono ?_
    rintro e w9 ⟨rfl, hb⟩
    have HB9 := Lib.hid (below_step HB8.out hb)
    go_wp2_with fail
    go_ret
    exact ⟨rfl, HB9.out⟩
  | true =>
    obtain ⟨k33, e33⟩ := HT.out rfl
    have E33 := Lib.hid e33
    have E32 := Lib.hid (HR.out rfl)
    clear e33 HT HR
    go_wp2_with fail
    refine (spec_Turns.calls k33 A0 c0 l0 sp d false T _ (Kd.C_below H0.out HB8.out) hc0 E33.out).mono ?_
    rintro e w10 ⟨v31, rfl, hv, hb⟩
    obtain ⟨A31, c31, e31⟩ := Kd.R_slice hv
    subst e31
    have HV := Lib.hid hv
    have HB := Lib.hid (below_step HB8.out hb)
    clear hv hb HB8
    go_wp2_with fail
    refine (impl_RunTrie.calls A31 c31 T A1 c1 l1 oks rows nds _ (Kd.R_reads' HV.out).2.2 (Kd.R_reads' HV.out).2.1 (Kd.C_below H1.out HB.out) hc1 (Pi.Laid.below HL.out HB.out) E32.out).mono ?_
    rintro e w12 ⟨v0, v1, rfl, hv0, hv1, hb⟩
    obtain ⟨A9, c9, e9⟩ := Kd.R_slice hv0
    subst e9
    obtain ⟨A10, c10, e10⟩ := Kd.S_slice hv1
    subst e10
    have HD := Lib.hid (Kd.R_reads' hv0).2.2
    have HRC := Lib.hid (Kd.S_reads' hv1).2.2
    have HB2 := Lib.hid (below_step HB.out hb)
    have n1 : ((oks.length : Int) != (l0.length : Int)) = false := by have := HO.out; simp [this]
    have n2 : ((rows.length : Int) != (l1.length : Int)) = false := by have := HRL.out; simp [this]
    clear hv0 hv1 hb HV HB
    go_wp2_with fail
    go_loopg [51] oks.length (fun kq v51 w' => ∃ i : Nat, v51 = .int .i64 (i : Int) ∧ Aside0 (i + kq = oks.length) ∧ w' = w12)
    case atStart => exact ⟨0, rfl, ⟨by omega⟩, rfl⟩
    case round =>
      obtain ⟨i, rfl, HI, rfl⟩ := hrel
      by_cases hi : i < oks.length
      · have d1 : decide ((i : Int) < (oks.length : Int)) = true := decide_eq_true (by omega)
        obtain ⟨ad, ead, hcell⟩ := Kd.at_bool HD.out (i : Int) (by omega) (by omega)
        cases ead
        rw [HOT.out i (by have := HO.out; omega), Int.toNat_natCast] at hcell
        have p0 := eq_true (show 0 ≤ (i : Int) by omega)
        have p1 := eq_true (show (i : Int) < (oks.length : Int) by omega)
        go_wp2_with fail
        go_roundg (gk - 1)
        case measure => have := HI.out; omega
        case rel => exact ⟨i + 1, by first | rfl | rw [wrap_up (by have := HO.out; omega)], ⟨by have := HI.out; omega⟩, rfl⟩
      · have d1 : decide ((i : Int) < (oks.length : Int)) = false := decide_eq_false (by omega)
        clear HI HD
        go_wp2_with fail
        refine (left_calls (Kd.C_below H0.out HB2.out) hc0 HS.out).mono ?_
        rintro e wl ⟨v13, rfl, hn, hb⟩
        obtain ⟨A13, c13, e13⟩ := Kd.N_slice hn
        subst e13
        have HNL := Lib.hid hn
        have HRC2 := Lib.hid (Kd.C_below HRC.out hb)
        have HB3 := Lib.hid (below_step HB2.out hb)
        have HZ := Lib.hid (Below.refl wl.heap.size wl)
        clear hn hb HRC HB2 d1
        go_wp2_with fail
        go_loopg [64] l1.length (fun kq v64 w' => ∃ i : Nat, v64 = .int .i64 (i : Int) ∧ Aside0 (i + kq = l1.length) ∧ Aside0 (Below wl.heap.size wl w'))
        case atStart => exact ⟨0, rfl, ⟨by omega⟩, ⟨HZ.out⟩⟩
        case round =>
          obtain ⟨j, rfl, HI, HB⟩ := hrel
          by_cases hj : j < l1.length
          · have d1 : decide ((j : Int) < (l1.length : Int)) = true := decide_eq_true (by omega)
            obtain ⟨ad1, B1, f1, e1, hx1, hl1, hi1⟩ := at_L8 HRC2.out (j : Int) (by omega) (by have := HRL.out; omega)
            obtain ⟨ad2, e2, hx2⟩ := Kd.at_string (Kd.C_below H1.out HB3.out) (j : Int) (by omega) (by omega)
            cases e1
            cases e2
            have p0 := eq_true (show 0 ≤ (j : Int) by omega)
            have p1 := eq_true (show (j : Int) < (rows.length : Int) by have := HRL.out; omega)
            have p2 := eq_true (show (j : Int) < (l1.length : Int) by omega)
            have hrw := HRW.out j hj
            have hrd : rdOf ByteArray.empty l1 (j : Int) = l1[j] := rdB hj
            rw [Int.toNat_natCast] at hx1 hx2
            rw [hrd] at hx2
            clear hrd
            obtain ⟨⟨k36, e36⟩, ⟨k35, e35⟩⟩ := hrw
            generalize rd_L8 rows (j : Int) = a at *
            generalize l1[j] = key at *
            have E36 := Lib.hid e36
            have E35 := Lib.hid e35
            have HX1 := Lib.hid (fun (x : World) (hb : Below wl.heap.size wl x) => Go.cell_later hb hx1)
            have HX2 := Lib.hid (fun (x : World) (hb : Below wl.heap.size wl x) => Go.cell_later hb hx2)
            have HI1 := Lib.hid hi1
            have HLC := Lib.hid hl1
            clear e36 e35 hx1 hx2 hi1 hl1
            go_wp2_with fail
            go_region_held3 (fun x => x.cell? (ad1.add j) = some (.slice B1 a.length f1) ∧ x.cell? (ad2.add j) = some (.string key) ∧ Below wl.heap.size wl x) (first | exact ⟨HX1.out _ (below_drew HB.out), HX2.out _ (below_drew HB.out), below_drew HB.out⟩ | exact ⟨HX1.out _ (below_step (below_drew HB.out) hbF), HX2.out _ (below_step (below_drew HB.out) hbF), below_step (below_drew HB.out) hbF⟩ | exact ⟨HX1.out _ (pw_below_drewN (below_step (below_drew HB.out) hbF) _), HX2.out _ (pw_below_drewN (below_step (below_drew HB.out) hbF) _), pw_below_drewN (below_step (below_drew HB.out) hbF) _⟩) (first | (go_at_call 36; (with_reducible refine (spec_Found.calls k36 A13 c13 (leftM l0) key a _ (Kd.N_reads' (Kd.N_below HNL.out (below_drew HB.out))).2.2 (Kd.N_reads' HNL.out).2.1 E36.out).mono ?_); rintro e w76 ⟨v76, rfl, hv, hbF⟩; obtain ⟨A76, c76, e76⟩ := Kd.R_slice hv; subst e76; have HV76 := Lib.hid hv; clear hv) | (go_at_call 35; (with_reducible refine (laws_sameInts.calls k35 B1 f1 a A76 c76 a true _ (Kd.C_below HI1.out (below_step (below_drew HB.out) hbF)) HLC.out (Kd.R_reads' HV76.out).2.2 (Kd.R_reads' HV76.out).2.1 E35.out).mono ?_); rintro e w77 ⟨rfl, ⟨nd, rfl⟩⟩))
            go_wp2_with fail
            go_roundg (gk - 1)
            case measure => have := HI.out; omega
            case rel => exact ⟨j + 1, by first | rfl | rw [wrap_up (by omega)], ⟨by have := HI.out; omega⟩, ⟨by first | assumption | exact pw_below_drewN (below_step (below_drew HB.out) hbF) _⟩⟩
          · have d1 : decide ((j : Int) < (l1.length : Int)) = false := decide_eq_false (by omega)
            have HB4 := Lib.hid (below_step HB3.out HB.out)
            clear HB HI
            go_wp2_with fail
            refine (laws_triesWork.calls 0 true _ (Pi.Laid.below HL.out HB4.out) rfl).mono ?_
            rintro e w16 ⟨rfl, hb⟩
            have HB10 := Lib.hid (below_step HB4.out hb)
            go_wp2_with fail
            go_ret
            exact ⟨rfl, HB10.out⟩
end Go.Proofs.YtnoolgbbpekomaaGreatDoor.Wf
