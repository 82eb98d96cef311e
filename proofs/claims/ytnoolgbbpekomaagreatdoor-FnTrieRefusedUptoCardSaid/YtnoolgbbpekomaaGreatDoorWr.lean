/- FnTrieRefused: the walk. -/
import Derived.Test.YtnoolgbbpekomaaGreatDoorPr
import Derived.Test.YtnoolgbbpekomaaGreatDoorPo
import Derived.Test.YtnoolgbbpekomaaGreatDoorUw
namespace Go.Proofs.YtnoolgbbpekomaaGreatDoor.Wr
open Go.RowKit YtnoolgbbpekomaaGreatDoorW.PrintWords YtnoolgbbpekomaaGreatDoorW.PrintLast YtnoolgbbpekomaaGreatDoorW.PrintMore T Em Pa Pb Pc
set_option linter.unusedVariables false
set_option linter.unusedSimpArgs false
set_option maxRecDepth 100000 in
set_option maxHeartbeats 4000000 in
theorem refused_calls {w : World} {A0 A3 : Option Addr} {c0 c3 : Nat} {l0 : List S42} {s1 s2 : ByteArray} {l3 : List ByteArray} (hC0 : Kd.C k42 w A0 l0.length l0) (hc0 : l0.length ≤ c0) (hC3 : Kd.C Kd.string w A3 l3.length l3) (hc3 : l3.length ≤ c3) (hl : Pi.Laid w) (hs : Small l0) (hk : Keys l3) (hz1 : s1.size ≤ 100000000) (hz2 : s2.size ≤ 100000000)
    (mok wok : Bool) (hm : ∃ k, spec_MatchesOk.f k (l0 ++ [(⟨false, s1, [], 0⟩ : S42)]) = some mok) (hw : ∃ k, laws_wordOk.f k s2 = some wok)
    {T : List S64} (hT : mok = true → wok = true → ∃ k, spec_Turns.f k l0 false false false = some T) (hTl : T.length ≤ 10000000)
    {oks : List Bool} {rows : List (List Int)} {nds : Int} (hR : mok = true → wok = true → impl_RunTrie.f (T ++ [(⟨2, s1, s2, 7⟩ : S64)]) l3 = some (oks, rows, nds)) (ho : oks.length = l0.length + 1) (ho2 : oks[l0.length]? = some false) (hrl : rows.length = l3.length)
    {r2 : List (List Int)} (ho3 : mok = true → wok = true → ∃ k, laws_of.f k l0 l3 = some r2) (hsame : mok = true → wok = true → ∃ k, laws_sameRows.f k rows r2 = some true) :
    Calls Tryz.prog 12 #[.slice A0 l0.length c0, .string s1, .string s2, .slice A3 l3.length c3] w fun e w' => e = .returned (.bool true) ∧ Below w.heap.size w w' := by
  obtain ⟨k22, e22⟩ := Ev.rounds (fit3_ev l0 hs)
  obtain ⟨k23, e23⟩ := Ev.rounds (fit5_ev l3 hk)
  obtain ⟨k24, e24⟩ := hm
  obtain ⟨k21, e21⟩ := hw
  have hmax : l0.length ≤ 10000000 := hs.len
  have H22 := Lib.hid (laws_zzFits3.calls k22 A0 c0 l0 true w hC0 hc0 e22)
  have HF := Lib.hid (Kd.C_F k42_heap hC0)
  have H0 := Lib.hid hC0
  have H3 := Lib.hid hC3
  have HL := Lib.hid hl
  have E23 := Lib.hid e23
  have E24 := Lib.hid e24
  have E21 := Lib.hid e21
  have HT := Lib.hid hT
  have HR := Lib.hid hR
  have HO := Lib.hid ho
  have HO2 := Lib.hid ho2
  have HRL := Lib.hid hrl
  have HO3 := Lib.hid ho3
  have HSA := Lib.hid hsame
  clear hC0 hC3 hl hs hk e22 e23 e24 e21 hT hR ho ho2 hrl ho3 hsame
  have q1 : decide (2147483647 < (s1.size : Int)) = false := decide_eq_false (by omega)
  have q2 : decide (2147483647 < s1.size) = false := decide_eq_false (by omega)
  have q3 : decide (2147483647 < (s2.size : Int)) = false := decide_eq_false (by omega)
  have q4 : decide (2147483647 < s2.size) = false := decide_eq_false (by omega)
  go_enter Tryz.func12, Tryz.ntmps12
  go_wp2_with fail
  refine H22.out.mono ?_
  rintro e w2 ⟨rfl, hb⟩
  have HB := Lib.hid hb
  clear hb H22
  go_wp2_with fail
  refine (laws_zzFits5.calls k23 A3 c3 l3 true _ (Kd.C_below H3.out HB.out) hc3 E23.out).mono ?_
  rintro e w3 ⟨rfl, hb⟩
  have HB2 := Lib.hid (below_step HB.out hb.below)
  clear hb HB
  go_wp2_with (first | ((with_reducible refine gate_dst (N := 31) rfl ?_); refine Kd.N_lit k42 w.heap.size 42 ?hg (N' := 31) ?hd (xs := ([] : List S42)) (inner := []) (ok := fun _ => True) (okp := fun _ => True) ?hr (Reps.none _ _) (fun _ hk => hk) trivial HB2.out HB2.out.size (by simp) ?_; (case hd => rfl); (case hg => rfl); (case hr => first | (go_simp; done) | (go_simp; rfl)); intro v31 w5 hn hb hg_ hat_; have HN0 := Lib.hid hn; have HB5 := Lib.hid hb; clear hn hb hg_ hat_ HB2) | ((with_reducible refine gate_builtin (b := .append) (xs := #[.tmp 31, .tmp 32]) rfl ?_); at_builtin; refine Kd.N_append_rows k42 (w0 := w) w.heap.size rfl (.tmp 31) (.tmp 32) 34 42 (.agg #[(.bool false), (.string ⟨#[]⟩), (.slice none 0 0), (.int .i64 0)]) 56 rfl Tryz.underlying34 info42 rfl (by decide) (by omega) v31 [] l0 A0 l0.length c0 (fun _ => True) (fun k => k < w.heap.size) rfl rfl HN0.out (Kd.F_below HF.out HB5.out) ?hokp (fun _ _ => trivial) HB5.out HB5.out.size ?hl ?_; (case hokp => exact fun k hk => ⟨trivial, fun e => absurd (Kd.N_base HN0.out k e.symm) (by omega)⟩); (case hl => simp; omega); intro v33 w6 ho hb hg hat; have HO6 := Lib.hid ho; have HB6 := Lib.hid hb; clear ho hb hg hat) | ((with_reducible refine gate_builtin (b := .append) (xs := #[.tmp 33, .tmp 36]) rfl ?_); at_builtin; refine Kd.N_append k42 (w0 := w) w.heap.size rfl (.tmp 33) (.tmp 36) 34 42 (.agg #[(.bool false), (.string ⟨#[]⟩), (.slice none 0 0), (.int .i64 0)]) 56 rfl Tryz.underlying34 info42 rfl (by decide) (by omega) v33 ([] ++ l0) (⟨false, s1, [], 0⟩ : S42) [.bool false, .string s1, .slice none 0 0, .int .i64 0] (fun _ => True) (fun _ => False) rfl rfl ?aP (fun _ hk => hk.elim) (fun _ _ => trivial) HO6.out HB6.out HB6.out.size ?hl ?_; (case aP => exact k42_mkF _ _ (⟨false, s1, [], 0⟩ : S42) (A2 := none) (c2 := 0) (Nat.le_refl _) (Kd.F_nil _ _ _)); (case hl => simp; omega); intro v37 w7 ho hb hg hat; have HO7 := Lib.hid ho; have HB7 := Lib.hid hb; clear ho hb hg hat))
  obtain ⟨A37, c37, e37⟩ := Kd.N_slice HO7.out
  subst e37
  have hn37 := HO7.out
  rw [List.nil_append] at hn37
  have HN := Lib.hid hn37
  clear hn37 HO7 HO6 HN0 HB5 HB6
  refine (spec_MatchesOk.calls k24 A37 c37 (l0 ++ [(⟨false, s1, [], 0⟩ : S42)]) mok _ (Kd.N_reads' HN.out).2.2 (Kd.N_reads' HN.out).2.1 E24.out).mono ?_
  rintro e w8 ⟨rfl, hb⟩
  have HB8 := Lib.hid (below_step HB7.out hb)
  clear hb HB7 HN
  cases mok with
  | false =>
    go_wp2_with fail
    refine (laws_triesWork.calls 0 true _ (Pi.Laid.below HL.out HB8.out) rfl).mono ?_
    rintro e w9 ⟨rfl, hb⟩
    have HB9 := Lib.hid (below_step HB8.out hb)
    go_wp2_with fail
    go_ret
    exact ⟨rfl, HB9.out⟩
  | true =>
    go_wp2_with fail
    refine (laws_wordOk.calls k21 s2 wok _ E21.out).mono ?_
    rintro e w9 ⟨rfl, hb⟩
    have HB9 := Lib.hid (below_step HB8.out hb.below)
    clear hb HB8
    cases wok with
    | false =>
      go_wp2_with fail
      refine (laws_triesWork.calls 0 true _ (Pi.Laid.below HL.out HB9.out) rfl).mono ?_
      rintro e w10 ⟨rfl, hb⟩
      have HB10 := Lib.hid (below_step HB9.out hb)
      go_wp2_with fail
      go_ret
      exact ⟨rfl, HB10.out⟩
    | true =>
      obtain ⟨k33, e33⟩ := HT.out (by simp) (by simp)
      obtain ⟨k26, e26⟩ := HO3.out (by simp) (by simp)
      obtain ⟨k31, e31⟩ := HSA.out (by simp) (by simp)
      have E33 := Lib.hid e33
      have E26 := Lib.hid e26
      have E31 := Lib.hid e31
      have E32 := Lib.hid (HR.out (by simp) (by simp))
      clear e33 e26 e31 HT HO3 HSA HR
      go_wp2_with fail
      refine (spec_Turns.calls k33 A0 c0 l0 false false false T _ (Kd.C_below H0.out HB9.out) hc0 E33.out).mono ?_
      rintro e w10 ⟨v47, rfl, hv, hb⟩
      have HV := Lib.hid (Kd.R_lower hv HB9.out.size)
      have HB := Lib.hid (below_step HB9.out hb)
      obtain ⟨A47, c47, e47⟩ := Kd.R_slice hv
      subst e47
      clear hv hb HB9
      go_wp2_with (first | ((with_reducible refine gate_builtin (b := .append) (xs := #[.tmp 49, .tmp 53]) rfl ?_); at_builtin; refine Kd.R_append k64 (w0 := w) w.heap.size rfl (.tmp 49) (.tmp 53) 53 64 (.agg #[(.int .i64 0), (.string ⟨#[]⟩), (.string ⟨#[]⟩), (.int .i64 0)]) 48 rfl Tryz.underlying53 info64 rfl (by decide) (by omega) _ T (⟨2, s1, s2, 7⟩ : S64) [.int .i64 2, .string s1, .string s2, .int .i64 7] (fun _ => True) (fun _ => False) rfl rfl ?aP (fun _ hk => hk.elim) ?aF HV.out HB.out HB.out.size ?aL ?_; (case aP => exact k64_mkM _ _ _ (⟨2, s1, s2, 7⟩ : S64)); (case aF => exact fun _ _ => trivial); (case aL => omega); intro v54 w11 ho hb hg hat; have HO7 := Lib.hid ho; have HB7 := Lib.hid hb; clear ho hb hg hat))
      obtain ⟨A54, c54, e54⟩ := Kd.R_slice HO7.out
      subst e54
      have hn54 := HO7.out
      have hlen : (T ++ [(⟨2, s1, s2, 7⟩ : S64)]).length = T.length + 1 := by simp
      refine (impl_RunTrie.calls A54 c54 (T ++ [(⟨2, s1, s2, 7⟩ : S64)]) A3 c3 l3 oks rows nds _ (Kd.R_reads' HO7.out).2.2 (Kd.R_reads' HO7.out).2.1 (Kd.C_below H3.out HB7.out) hc3 (Pi.Laid.below HL.out HB7.out) E32.out).mono ?_
      rintro e w12 ⟨v0, v1, rfl, hv0, hv1, hb⟩
      obtain ⟨A10, c10, e10⟩ := Kd.R_slice hv0
      subst e10
      obtain ⟨A11, c11, e11⟩ := Kd.S_slice hv1
      subst e11
      have HD := Lib.hid hv0
      have HV1 := Lib.hid hv1
      have HB := Lib.hid (below_step HB7.out hb)
      clear hv0 hv1 hb HB7 HO7 HV
      have hlo : ((oks.length : Int) == (l0.length : Int) + 1) = true := beq_iff_eq.mpr (by have := HO.out; omega)
      have hle : ((rows.length : Int) == (l3.length : Int)) = true := beq_iff_eq.mpr (by have := HRL.out; omega)
      obtain ⟨ad, ead, hcell⟩ := Kd.at_bool (Kd.R_reads' HD.out).2.2 (l0.length : Int) (by omega) (by have := HO.out; omega)
      cases ead
      have hrd : rdOf false oks (l0.length : Int) = false := by
        have := HO2.out
        unfold rdOf
        simp [List.getD, this]
      rw [hrd, Int.toNat_natCast] at hcell
      clear hrd
      have p1 := eq_true (show 0 ≤ (l0.length : Int) by omega)
      have p2 := eq_true (show (l0.length : Int) < (oks.length : Int) by have := HO.out; omega)
      go_wp2_with fail
      refine (laws_of.calls k26 A0 c0 l0 A3 c3 l3 r2 _ (Kd.C_below H0.out HB.out) hc0 (Kd.C_below H3.out HB.out) hc3 (Pi.Laid.below HL.out HB.out) E26.out).mono ?_
      rintro e w13 ⟨v40, rfl, hv, hb⟩
      obtain ⟨A40, c40, e40⟩ := Kd.S_slice hv
      subst e40
      have HV2 := Lib.hid hv
      have HV3 := Lib.hid (Kd.S_below HV1.out hb)
      have HB8 := Lib.hid (below_step HB.out hb)
      clear hv hb HV1 HB HD hcell
      go_wp2_with fail
      refine (laws_sameRows.calls k31 A11 c11 rows A40 c40 r2 true _ (Kd.S_reads' HV3.out).2.2 (Kd.S_reads' HV3.out).2.1 (Kd.S_reads' HV2.out).2.2 (Kd.S_reads' HV2.out).2.1 E31.out).mono ?_
      rintro e w14 ⟨rfl, hb⟩
      have HB9 := Lib.hid (below_step HB8.out hb.below)
      clear hb HB8
      go_wp2_with fail
      refine (laws_triesWork.calls 0 true _ (Pi.Laid.below HL.out HB9.out) rfl).mono ?_
      rintro e w15 ⟨rfl, hb⟩
      have HB10 := Lib.hid (below_step HB9.out hb)
      clear hb HB9
      go_wp2_with fail
      go_ret
      exact ⟨rfl, HB10.out⟩
end Go.Proofs.YtnoolgbbpekomaaGreatDoor.Wr
