/- FnTrieBack: the walk. -/
import Derived.Test.YtnoolgbbpekomaaGreatDoorPo
import Derived.Test.YtnoolgbbpekomaaGreatDoorPr
import Derived.Test.YtnoolgbbpekomaaGreatDoorWl
import Derived.Deep.RegionHeld3
namespace Go.Proofs.YtnoolgbbpekomaaGreatDoor.Wb
open Go.RowKit YtnoolgbbpekomaaGreatDoorW.PrintWords YtnoolgbbpekomaaGreatDoorW.PrintLast YtnoolgbbpekomaaGreatDoorW.PrintMore T Em Pa Pb Pc Wl
set_option linter.unusedVariables false
set_option linter.unusedSimpArgs false
/-! What is kept of a row that another row is gathered beside. -/
/-- A row X (its blocks within okX), apart from the row at v. -/
structure Apart (okX : Nat → Prop) (v : Value) (W : World) : Prop where
  ne : ∀ k, okX k → some k ≠ v.ownBlock
theorem apart_lit {okX : Nat → Prop} {W W1 : World} {v : Value} (hz : ∀ k, okX k → k < W.heap.size) (hat : ∃ b, v.ownBlock = some b ∧ W.heap.size ≤ b) : ∀ k, okX k → some k ≠ v.ownBlock := by
  intro k hk e
  obtain ⟨b, hb, hle⟩ := hat
  rw [hb] at e
  have := hz k hk
  injection e with e
  omega
theorem apart_app {okX : Nat → Prop} {W : World} {v v1 : Value} (hd : ∀ k, okX k → some k ≠ v.ownBlock) (hz : ∀ k, okX k → k < W.heap.size) (hat : v1.ownBlock = v.ownBlock ∨ ∃ b, v1.ownBlock = some b ∧ W.heap.size ≤ b) : ∀ k, okX k → some k ≠ v1.ownBlock := by
  rcases hat with h | h
  · rw [h]; exact hd
  · exact apart_lit (W1 := W) hz h
/-- The blocks of a row made at W, its elements' rows below base. -/
def newOk (base : Nat) (W W1 : World) (k : Nat) : Prop := (k < base ∨ W.heap.size ≤ k) ∧ k < W1.heap.size
theorem newOk_lt {base : Nat} {W W1 W2 : World} (h : W1.heap.size ≤ W2.heap.size) : ∀ k, newOk base W W1 k → k < W2.heap.size := fun k hk => by have := hk.2; omega
theorem newOk_apart {d e base : Nat} {W W1 : World} {v : Value} {xs : List S42} (h : Kd.N k42 e W base (fun _ => True) v xs) : ∀ k, newOk base W W1 k → some k ≠ v.ownBlock := by
  intro k hk he
  have h1 := Kd.N_lt h k he.symm
  have h2 := Kd.N_base h k he.symm
  rcases hk.1 with h3 | h3 <;> omega
theorem newOk_F {e base n c : Nat} {W W1 : World} {A : Option Addr} {xs : List S42} (h : Kd.N k42 e W1 base (fun k => k < base ∨ W.heap.size ≤ k) (.slice A n c) xs) : Kd.F k42 W1 (newOk base W W1) A n xs := Kd.F_mono (Kd.F_bound (Kd.N_F h)) (fun k hk => hk)
theorem two_new1 (w : World) (o p : Obj) : ((w.alloc o).alloc p).drew.heap[w.heap.size]? = some o := by
  have h := Tr.up1 (p := p) (blk_new w o)
  exact h
theorem two_new2 (w : World) (o p : Obj) : ((w.alloc o).alloc p).drew.heap[w.heap.size + 1]? = some p := by
  have h := blk_new (w.alloc o) p
  have e : (w.alloc o).heap.size = w.heap.size + 1 := by simp [World.alloc_eq]
  rw [e] at h
  exact h
def TwoRows (wd : World) (r : List (List Int)) (v11 v12 : Value) (wc : World) : Prop :=
  ∃ (A11 : Option Addr) (c11 : Nat) (A12 : Option Addr) (c12 : Nat), v11 = .slice A11 r.length c11 ∧ v12 = .slice A12 r.length c12 ∧ Kd.C (Kd.slice 3 (Kd.int .i64)) wc A11 r.length r ∧ r.length ≤ c11 ∧ Kd.C (Kd.slice 3 (Kd.int .i64)) wc A12 r.length r ∧ r.length ≤ c12 ∧ Below wd.heap.size wd wc
set_option maxRecDepth 100000 in
set_option maxHeartbeats 16000000 in
theorem back_calls {w : World} {A0 A1 A2 : Option Addr} {c0 c1 c2 : Nat} {l0 : List S42} {g0 : Bool} {g1 : ByteArray} {g2 : List S67} {g3 : Int} {l2 : List ByteArray} (hC0 : Kd.C k42 w A0 l0.length l0) (hc0 : l0.length ≤ c0) (hC1 : Kd.C k67 w A1 g2.length g2) (hc1 : g2.length ≤ c1) (hC2 : Kd.C Kd.string w A2 l2.length l2) (hc2 : l2.length ≤ c2) (hl : Pi.Laid w) (hs : Small l0) (hsm : Small [(⟨g0, g1, g2, g3⟩ : S42)]) (hk : Keys l2)
    (mok : Bool) (hm : ∃ k, spec_MatchesOk.f k (l0 ++ [(⟨g0, g1, g2, g3⟩ : S42)]) = some mok)
    {r : List (List Int)} (hr1 : mok = true → (∀ x ∈ l0, eqM x (⟨g0, g1, g2, g3⟩ : S42) = false) → ∃ k, laws_of.f k l0 l2 = some r) (hr2 : mok = true → (∀ x ∈ l0, eqM x (⟨g0, g1, g2, g3⟩ : S42) = false) → ∃ k, laws_of.f k (l0 ++ [(⟨false, g1, g2, g3⟩ : S42), (⟨true, g1, g2, g3⟩ : S42)]) l2 = some r) (hrl : r.length = l2.length) (hsame : ∃ k, laws_sameRows.f k r r = some true) :
    Calls Tryz.prog 6 #[.slice A0 l0.length c0, .agg #[.bool g0, .string g1, .slice A1 g2.length c1, .int .i64 g3], .slice A2 l2.length c2] w fun e w' => e = .returned (.bool true) ∧ Below w.heap.size w w' := by
  obtain ⟨k22, e22⟩ := Ev.rounds (fit3_ev l0 hs)
  obtain ⟨k23, e23⟩ := Ev.rounds (fit5_ev l2 hk)
  obtain ⟨k24, e24⟩ := hm
  obtain ⟨k31, e31⟩ := hsame
  have hmax : l0.length ≤ 10000000 := hs.len
  have e29 := fit4 (⟨g0, g1, g2, g3⟩ : S42) (hsm.pre _ (List.mem_singleton.2 rfl)) (hsm.sp _ (List.mem_singleton.2 rfl))
  have HF := Lib.hid (Kd.C_F k42_heap hC0)
  have HFM := Lib.hid (Kd.C_F (d := k67) k67_heap hC1)
  have H0 := Lib.hid hC0
  have H1 := Lib.hid hC1
  have H2 := Lib.hid hC2
  have HL := Lib.hid hl
  have HS := Lib.hid hs
  have HSM := Lib.hid hsm
  have E22 := Lib.hid e22
  have E23 := Lib.hid e23
  have E24 := Lib.hid e24
  have E29 := Lib.hid e29
  have E31 := Lib.hid e31
  have HR1 := Lib.hid hr1
  have HR2 := Lib.hid hr2
  have HRL := Lib.hid hrl
  clear hC0 hC1 hC2 hl hs hsm hk e22 e23 e24 e29 e31 hr1 hr2 hrl
  go_enter Tryz.func6, Tryz.ntmps6
  go_upto_region 1 with (fail)
  obtain ⟨b4, hb4, hbk, hbw⟩ : ∃ b4, b4 = w.heap.size ∧ (w.alloc (.cells #[.bool g0, .string g1, .slice A1 g2.length c1, .int .i64 g3] 42)).heap[b4]? = some (.cells #[.bool g0, .string g1, .slice A1 g2.length c1, .int .i64 g3] 42 (0, 0)) ∧ Below w.heap.size w (w.alloc (.cells #[.bool g0, .string g1, .slice A1 g2.length c1, .int .i64 g3] 42)) := ⟨_, rfl, blk_new _ _, below_alloc (Below.refl _ _) _⟩
  rw [← hb4]
  generalize w.alloc (.cells #[.bool g0, .string g1, .slice A1 g2.length c1, .int .i64 g3] 42) = w1 at *
  have HB1 := Lib.hid hbw
  have BK1 := Lib.hid hbk
  clear hb4 hbk hbw
  go_wp2_with fail
  refine (laws_zzFits3.calls k22 A0 c0 l0 true _ (Kd.C_below H0.out HB1.out) hc0 E22.out).mono ?_
  rintro e w2 ⟨rfl, hb⟩
  have HB2 := Lib.hid (below_step HB1.out hb)
  have BK2 := Lib.hid (blk_below BK1.out hb)
  clear hb HB1 BK1
  have hq0 := blk_cell BK2.out 0
  have hq1 := blk_cell BK2.out 1
  have hq2 := blk_cell BK2.out 2
  have hq3 := blk_cell BK2.out 3
  go_wp2_with fail
  refine (laws_zzFits4.calls g0 g1 A1 c1 g2 g3 true _ (Kd.C_below H1.out HB2.out) hc1 E29.out).mono ?_
  rintro e w3 ⟨rfl, hb⟩
  have HB3 := Lib.hid (below_step HB2.out hb)
  have BK3 := Lib.hid (blk_below BK2.out hb)
  clear hb HB2 BK2 hq0 hq1 hq2 hq3
  go_wp2_with fail
  refine (laws_zzFits5.calls k23 A2 c2 l2 true _ (Kd.C_below H2.out HB3.out) hc2 E23.out).mono ?_
  rintro e wb ⟨rfl, hb⟩
  have HB := Lib.hid (below_step HB3.out hb.below)
  have BK := Lib.hid (blk_below BK3.out hb.below)
  clear hb HB3 BK3
  go_upto_region 3 with (fail)
  go_cut [33] (fun v33 wc => v33 = .bool (!mok) ∧ Below wb.heap.size wb wc)
  case first =>
    have HFW := Lib.hid (Kd.F_below HF.out HB.out)
    have HFMW := Lib.hid (Kd.F_below HFM.out HB.out)
    have hle : w.heap.size ≤ wb.heap.size := HB.out.size
    have HK := Lib.hid (fun (x : World) (hx : Below wb.heap.size wb x) => (show x.cell? ⟨b4, 0, none⟩ = some (.bool g0) ∧ x.cell? ⟨b4, 1, none⟩ = some (.string g1) ∧ x.cell? ⟨b4, 2, none⟩ = some (.slice A1 g2.length c1) ∧ x.cell? ⟨b4, 3, none⟩ = some (.int .i64 g3) ∧ Below wb.heap.size wb x from ⟨blk_cell (blk_below BK.out hx) 0, blk_cell (blk_below BK.out hx) 1, blk_cell (blk_below BK.out hx) 2, blk_cell (blk_below BK.out hx) 3, hx⟩))
    refine wp_region_held_drew (S := (fun x => x.cell? ⟨b4, 0, none⟩ = some (.bool g0) ∧ x.cell? ⟨b4, 1, none⟩ = some (.string g1) ∧ x.cell? ⟨b4, 2, none⟩ = some (.slice A1 g2.length c1) ∧ x.cell? ⟨b4, 3, none⟩ = some (.int .i64 g3) ∧ Below wb.heap.size wb x)) (by kernel_rfl) ?_ (fun hHeld => ?_)
    · exact HK.out _ (below_drew (Below.refl _ _))
    refine wpAnyH_take (i := 1) (v := ?_) rfl (by kernel_rfl) (by kernel_rfl) (by kernel_rfl) (fun _ _ _ h => h) (Or.inl ⟨by rfl, ?_⟩) (by assumption) ?_
    rotate_left
    · intro w hSw
      try dsimp only at hSw
      go_simp
      try with_reducible rfl
    simp only [Act.put, List.getElem_toArray, List.getElem_cons_succ, List.getElem_cons_zero, List.setIfInBounds_toArray, List.set_cons_zero, List.set_cons_succ]
    refine wpAnyH_take (i := 3) (v := ?_) rfl (by kernel_rfl) (by kernel_rfl) (by kernel_rfl) (fun _ _ _ h => h) (Or.inl ⟨by rfl, ?_⟩) (by assumption) ?_
    rotate_left
    · intro w hSw
      try dsimp only at hSw
      go_simp
      try with_reducible rfl
    simp only [Act.put, List.getElem_toArray, List.getElem_cons_succ, List.getElem_cons_zero, List.setIfInBounds_toArray, List.set_cons_zero, List.set_cons_succ]
    refine wpAnyH_ready (rs := [0, 4]) (by kernel_rfl) (by simp) ?_
    refine AllReadyH.cons rfl (fun K hK => ?_) ?_
    · refine Kd.N_lit_step k42 (w0 := wb) wb.heap.size 42 (by first | rfl | simp [Region.wanted]) (N' := 26) rfl (xs := ([] : List S42)) (inner := []) (ok := fun _ => True) (okp := fun _ => True) ?hr1 (Reps.none _ _) (fun _ hk => hk) trivial (below_drew (Below.refl wb.heap.size wb)) ((below_drew (Below.refl wb.heap.size wb))).size (by simp) ?_
      case hr1 => first | (go_simp; done) | (go_simp; rfl)
      intro v26 x1 hn hb hg_ hat_
      have hb1 := Lib.hid hb
      have HA1 := Lib.hid hn
      clear hn hb hg_ hat_
      refine hK.out _ _ ?_ (fun hHeld => ?_)
      · exact HK.out _ hb1.out
      · clear hK K
        try simp only [Act.put, List.getElem_toArray, List.getElem_cons_succ, List.getElem_cons_zero, List.setIfInBounds_toArray, List.set_cons_zero, List.set_cons_succ]
        refine wpAnyH_ready (rs := [2, 4]) (by kernel_rfl) (by simp) ?_
        refine AllReadyH.cons rfl (fun K hK => ?_) ?_
        · refine Kd.N_append_rows_step k42 (w0 := wb) wb.heap.size (by first | rfl | simp [Region.wanted]) (.tmp 26) (.tmp 27) 34 42 (.agg #[(.bool false), (.string ⟨#[]⟩), (.slice none 0 0), (.int .i64 0)]) 56 rfl Tryz.underlying34 info42 rfl (by decide) (by omega) v26 [] l0 A0 l0.length c0 (fun _ => True) (fun k => k < w.heap.size) rfl rfl HA1.out (Kd.F_below HFW.out hb1.out) ?hp2 (fun _ _ => trivial) hb1.out (hb1.out).size ?hl2 ?_
          case hp2 => exact fun k hk => ⟨trivial, fun e => absurd (Kd.N_base HA1.out k e.symm) (by omega)⟩
          case hl2 => first | omega | (simp; omega)
          intro v28 x2 hn hb hg_ hat_
          rw [List.nil_append] at hn
          have hb2 := Lib.hid hb
          have HA2 := Lib.hid hn
          clear hn hb hg_ hat_
          refine hK.out _ _ ?_ (fun hHeld => ?_)
          · exact HK.out _ hb2.out
          · clear hK K
            try simp only [Act.put, List.getElem_toArray, List.getElem_cons_succ, List.getElem_cons_zero, List.setIfInBounds_toArray, List.set_cons_zero, List.set_cons_succ]
            refine wpAnyH_ready (rs := [4]) (by kernel_rfl) (by simp) ?_
            refine AllReadyH.cons rfl (fun K hK => ?_) ?_
            · refine Kd.N_lit_step k42 (w0 := wb) wb.heap.size 42 (by first | rfl | simp [Region.wanted]) (N' := 30) rfl (xs := [(⟨g0, g1, g2, g3⟩ : S42)]) (inner := [.bool g0, .string g1, .slice A1 g2.length c1, .int .i64 g3]) (ok := fun k => k < wb.heap.size ∨ (x2).heap.size ≤ k) (okp := fun k => k < wb.heap.size) ?hr3 (Reps.front (c := [.bool g0, .string g1, .slice A1 g2.length c1, .int .i64 g3]) (k42_mkF _ _ (⟨g0, g1, g2, g3⟩ : S42) hc1 (Kd.F_mono (Kd.F_below HFMW.out (hb2.out)) (fun k hk => Nat.lt_of_lt_of_le hk hle))) rfl (Reps.none _ _) rfl) (fun _ hk => .inl hk) (.inr (Nat.le_refl _)) hb2.out (hb2.out).size (by simp) ?_
              case hr3 => first | (go_simp; done) | (go_simp; rfl)
              intro v30 x3 hn hb hg_ hat_
              have hb3 := Lib.hid hb
              obtain ⟨A30, c30, e30⟩ := Kd.N_slice hn
              subst e30
              have HM3 := Lib.hid (newOk_F (W := x2) hn)
              have HZ3 := Lib.hid (newOk_lt (base := wb.heap.size) (W := x2) (W1 := x3) (Nat.le_refl x3.heap.size))
              have HD3 := Lib.hid (newOk_apart (d := 0) (W1 := x3) HA2.out)
              have HA3 := Lib.hid (Kd.N_grown HA2.out hg_ (fun _ _ => by simp))
              clear hn hb hg_ hat_
              refine hK.out _ _ ?_ (fun hHeld => ?_)
              · exact HK.out _ hb3.out
              · clear hK K
                try simp only [Act.put, List.getElem_toArray, List.getElem_cons_succ, List.getElem_cons_zero, List.setIfInBounds_toArray, List.set_cons_zero, List.set_cons_succ]
                refine wpAnyH_ready (rs := [5]) (by kernel_rfl) (by simp) ?_
                refine AllReadyH.cons rfl (fun K hK => ?_) ?_
                · refine Kd.N_append_rows_step k42 (w0 := wb) wb.heap.size (by first | rfl | simp [Region.wanted]) (.tmp 28) (.tmp 30) 34 42 (.agg #[(.bool false), (.string ⟨#[]⟩), (.slice none 0 0), (.int .i64 0)]) 56 rfl Tryz.underlying34 info42 rfl (by decide) (by omega) v28 l0 [(⟨g0, g1, g2, g3⟩ : S42)] A30 _ c30 (fun _ => True) _ rfl rfl HA3.out HM3.out ?hp4 (fun _ _ => trivial) hb3.out (hb3.out).size ?hl4 ?_
                  case hp4 => exact fun k hk => ⟨trivial, HD3.out k hk⟩
                  case hl4 => first | omega | (simp; omega)
                  intro v31 x4 hn hb hg_ hat_
                  have hb4 := Lib.hid hb
                  have HA4 := Lib.hid hn
                  clear hn hb hg_ hat_
                  refine hK.out _ _ ?_ (fun hHeld => ?_)
                  · exact HK.out _ hb4.out
                  · clear hK K
                    try simp only [Act.put, List.getElem_toArray, List.getElem_cons_succ, List.getElem_cons_zero, List.setIfInBounds_toArray, List.set_cons_zero, List.set_cons_succ]
                    refine wpAnyH_ready (rs := [6]) (by kernel_rfl) (by simp) ?_
                    refine AllReadyH.cons rfl (fun K hK => ?_) ?_
                    · obtain ⟨A31, c31, e31⟩ := Kd.N_slice HA4.out
                      subst e31
                      go_simp
                      go_at_call 24
                      have hcall := spec_MatchesOk.calls k24 A31 c31 (l0 ++ [(⟨g0, g1, g2, g3⟩ : S42)]) mok _ (Kd.N_reads' HA4.out).2.2 (Kd.N_reads' HA4.out).2.1 E24.out
                      rw [show (l0 ++ [(⟨g0, g1, g2, g3⟩ : S42)]).length = l0.length + 1 by simp] at hcall
                      refine hcall.mono ?_
                      rintro e x5 ⟨rfl, hbc⟩
                      have hb5 := Lib.hid (below_step (hb4.out) hbc)
                      refine hK.out _ _ ?_ (fun hHeld => ?_)
                      · exact HK.out _ hb5.out
                      · clear hK K
                        try simp only [Act.put, List.getElem_toArray, List.getElem_cons_succ, List.getElem_cons_zero, List.setIfInBounds_toArray, List.set_cons_zero, List.set_cons_succ]
                        refine wpAnyH_take (i := 7) (v := ?_) rfl (by kernel_rfl) (by kernel_rfl) (by kernel_rfl) (fun _ _ _ h => h) (Or.inl ⟨by rfl, ?_⟩) (by assumption) ?_
                        rotate_left
                        · intro w hSw
                          try dsimp only at hSw
                          go_simp
                          try with_reducible rfl
                        simp only [Act.put, List.getElem_toArray, List.getElem_cons_succ, List.getElem_cons_zero, List.setIfInBounds_toArray, List.set_cons_zero, List.set_cons_succ]
                        refine wpAnyH_done (by kernel_rfl) ?_ _
                        go_wp2_with fail
                        go_meet
                        case rel => exact ⟨rfl, hb5.out⟩
                    exact AllReadyH.nil
                exact AllReadyH.nil
            exact AllReadyH.nil
        refine AllReadyH.cons rfl (fun K hK => ?_) ?_
        · refine Kd.N_lit_step k42 (w0 := wb) wb.heap.size 42 (by first | rfl | simp [Region.wanted]) (N' := 30) rfl (xs := [(⟨g0, g1, g2, g3⟩ : S42)]) (inner := [.bool g0, .string g1, .slice A1 g2.length c1, .int .i64 g3]) (ok := fun k => k < wb.heap.size ∨ (x1).heap.size ≤ k) (okp := fun k => k < wb.heap.size) ?hr6 (Reps.front (c := [.bool g0, .string g1, .slice A1 g2.length c1, .int .i64 g3]) (k42_mkF _ _ (⟨g0, g1, g2, g3⟩ : S42) hc1 (Kd.F_mono (Kd.F_below HFMW.out (hb1.out)) (fun k hk => Nat.lt_of_lt_of_le hk hle))) rfl (Reps.none _ _) rfl) (fun _ hk => .inl hk) (.inr (Nat.le_refl _)) hb1.out (hb1.out).size (by simp) ?_
          case hr6 => first | (go_simp; done) | (go_simp; rfl)
          intro v30 x6 hn hb hg_ hat_
          have hb6 := Lib.hid hb
          obtain ⟨A30, c30, e30⟩ := Kd.N_slice hn
          subst e30
          have HM6 := Lib.hid (newOk_F (W := x1) hn)
          have HZ6 := Lib.hid (newOk_lt (base := wb.heap.size) (W := x1) (W1 := x6) (Nat.le_refl x6.heap.size))
          have HD6 := Lib.hid (newOk_apart (d := 0) (W1 := x6) HA1.out)
          have HA6 := Lib.hid (Kd.N_grown HA1.out hg_ (fun _ _ => by simp))
          clear hn hb hg_ hat_
          refine hK.out _ _ ?_ (fun hHeld => ?_)
          · exact HK.out _ hb6.out
          · clear hK K
            try simp only [Act.put, List.getElem_toArray, List.getElem_cons_succ, List.getElem_cons_zero, List.setIfInBounds_toArray, List.set_cons_zero, List.set_cons_succ]
            refine wpAnyH_ready (rs := [2]) (by kernel_rfl) (by simp) ?_
            refine AllReadyH.cons rfl (fun K hK => ?_) ?_
            · refine Kd.N_append_rows_step k42 (w0 := wb) wb.heap.size (by first | rfl | simp [Region.wanted]) (.tmp 26) (.tmp 27) 34 42 (.agg #[(.bool false), (.string ⟨#[]⟩), (.slice none 0 0), (.int .i64 0)]) 56 rfl Tryz.underlying34 info42 rfl (by decide) (by omega) v26 [] l0 A0 l0.length c0 (fun _ => True) (fun k => k < w.heap.size) rfl rfl HA6.out (Kd.F_below HFW.out hb6.out) ?hp7 (fun _ _ => trivial) hb6.out (hb6.out).size ?hl7 ?_
              case hp7 => exact fun k hk => ⟨trivial, fun e => absurd (Kd.N_base HA6.out k e.symm) (by omega)⟩
              case hl7 => first | omega | (simp; omega)
              intro v28 x7 hn hb hg_ hat_
              rw [List.nil_append] at hn
              have hb7 := Lib.hid hb
              have HA7 := Lib.hid hn
              have HM7 := Lib.hid (Kd.F_grown HM6.out hg_ HD6.out)
              have HD7 := Lib.hid (apart_app HD6.out HZ6.out hat_)
              have HZ7 := Lib.hid (fun k hk => Nat.lt_of_lt_of_le (HZ6.out k hk) hg_.size)
              clear hn hb hg_ hat_
              refine hK.out _ _ ?_ (fun hHeld => ?_)
              · exact HK.out _ hb7.out
              · clear hK K
                try simp only [Act.put, List.getElem_toArray, List.getElem_cons_succ, List.getElem_cons_zero, List.setIfInBounds_toArray, List.set_cons_zero, List.set_cons_succ]
                refine wpAnyH_ready (rs := [5]) (by kernel_rfl) (by simp) ?_
                refine AllReadyH.cons rfl (fun K hK => ?_) ?_
                · refine Kd.N_append_rows_step k42 (w0 := wb) wb.heap.size (by first | rfl | simp [Region.wanted]) (.tmp 28) (.tmp 30) 34 42 (.agg #[(.bool false), (.string ⟨#[]⟩), (.slice none 0 0), (.int .i64 0)]) 56 rfl Tryz.underlying34 info42 rfl (by decide) (by omega) v28 l0 [(⟨g0, g1, g2, g3⟩ : S42)] A30 _ c30 (fun _ => True) _ rfl rfl HA7.out HM7.out ?hp8 (fun _ _ => trivial) hb7.out (hb7.out).size ?hl8 ?_
                  case hp8 => exact fun k hk => ⟨trivial, HD7.out k hk⟩
                  case hl8 => first | omega | (simp; omega)
                  intro v31 x8 hn hb hg_ hat_
                  have hb8 := Lib.hid hb
                  have HA8 := Lib.hid hn
                  clear hn hb hg_ hat_
                  refine hK.out _ _ ?_ (fun hHeld => ?_)
                  · exact HK.out _ hb8.out
                  · clear hK K
                    try simp only [Act.put, List.getElem_toArray, List.getElem_cons_succ, List.getElem_cons_zero, List.setIfInBounds_toArray, List.set_cons_zero, List.set_cons_succ]
                    refine wpAnyH_ready (rs := [6]) (by kernel_rfl) (by simp) ?_
                    refine AllReadyH.cons rfl (fun K hK => ?_) ?_
                    · obtain ⟨A31, c31, e31⟩ := Kd.N_slice HA8.out
                      subst e31
                      go_simp
                      go_at_call 24
                      have hcall := spec_MatchesOk.calls k24 A31 c31 (l0 ++ [(⟨g0, g1, g2, g3⟩ : S42)]) mok _ (Kd.N_reads' HA8.out).2.2 (Kd.N_reads' HA8.out).2.1 E24.out
                      rw [show (l0 ++ [(⟨g0, g1, g2, g3⟩ : S42)]).length = l0.length + 1 by simp] at hcall
                      refine hcall.mono ?_
                      rintro e x9 ⟨rfl, hbc⟩
                      have hb9 := Lib.hid (below_step (hb8.out) hbc)
                      refine hK.out _ _ ?_ (fun hHeld => ?_)
                      · exact HK.out _ hb9.out
                      · clear hK K
                        try simp only [Act.put, List.getElem_toArray, List.getElem_cons_succ, List.getElem_cons_zero, List.setIfInBounds_toArray, List.set_cons_zero, List.set_cons_succ]
                        refine wpAnyH_take (i := 7) (v := ?_) rfl (by kernel_rfl) (by kernel_rfl) (by kernel_rfl) (fun _ _ _ h => h) (Or.inl ⟨by rfl, ?_⟩) (by assumption) ?_
                        rotate_left
                        · intro w hSw
                          try dsimp only at hSw
                          go_simp
                          try with_reducible rfl
                        simp only [Act.put, List.getElem_toArray, List.getElem_cons_succ, List.getElem_cons_zero, List.setIfInBounds_toArray, List.set_cons_zero, List.set_cons_succ]
                        refine wpAnyH_done (by kernel_rfl) ?_ _
                        go_wp2_with fail
                        go_meet
                        case rel => exact ⟨rfl, hb9.out⟩
                    exact AllReadyH.nil
                exact AllReadyH.nil
            exact AllReadyH.nil
        exact AllReadyH.nil
    refine AllReadyH.cons rfl (fun K hK => ?_) ?_
    · refine Kd.N_lit_step k42 (w0 := wb) wb.heap.size 42 (by first | rfl | simp [Region.wanted]) (N' := 30) rfl (xs := [(⟨g0, g1, g2, g3⟩ : S42)]) (inner := [.bool g0, .string g1, .slice A1 g2.length c1, .int .i64 g3]) (ok := fun k => k < wb.heap.size ∨ (wb.drew).heap.size ≤ k) (okp := fun k => k < wb.heap.size) ?hr10 (Reps.front (c := [.bool g0, .string g1, .slice A1 g2.length c1, .int .i64 g3]) (k42_mkF _ _ (⟨g0, g1, g2, g3⟩ : S42) hc1 (Kd.F_mono (Kd.F_below HFMW.out ((below_drew (Below.refl wb.heap.size wb)))) (fun k hk => Nat.lt_of_lt_of_le hk hle))) rfl (Reps.none _ _) rfl) (fun _ hk => .inl hk) (.inr (Nat.le_refl _)) (below_drew (Below.refl wb.heap.size wb)) ((below_drew (Below.refl wb.heap.size wb))).size (by simp) ?_
      case hr10 => first | (go_simp; done) | (go_simp; rfl)
      intro v30 x10 hn hb hg_ hat_
      have hb10 := Lib.hid hb
      obtain ⟨A30, c30, e30⟩ := Kd.N_slice hn
      subst e30
      have HM10 := Lib.hid (newOk_F (W := wb.drew) hn)
      have HZ10 := Lib.hid (newOk_lt (base := wb.heap.size) (W := wb.drew) (W1 := x10) (Nat.le_refl x10.heap.size))
      clear hn hb hg_ hat_
      refine hK.out _ _ ?_ (fun hHeld => ?_)
      · exact HK.out _ hb10.out
      · clear hK K
        try simp only [Act.put, List.getElem_toArray, List.getElem_cons_succ, List.getElem_cons_zero, List.setIfInBounds_toArray, List.set_cons_zero, List.set_cons_succ]
        refine wpAnyH_ready (rs := [0]) (by kernel_rfl) (by simp) ?_
        refine AllReadyH.cons rfl (fun K hK => ?_) ?_
        · refine Kd.N_lit_step k42 (w0 := wb) wb.heap.size 42 (by first | rfl | simp [Region.wanted]) (N' := 26) rfl (xs := ([] : List S42)) (inner := []) (ok := fun _ => True) (okp := fun _ => True) ?hr11 (Reps.none _ _) (fun _ hk => hk) trivial hb10.out (hb10.out).size (by simp) ?_
          case hr11 => first | (go_simp; done) | (go_simp; rfl)
          intro v26 x11 hn hb hg_ hat_
          have hb11 := Lib.hid hb
          have HA11 := Lib.hid hn
          have HM11 := Lib.hid (Kd.F_grown HM10.out hg_ (fun _ _ => by simp))
          have HD11 := Lib.hid (apart_lit (W1 := x11) HZ10.out hat_)
          have HZ11 := Lib.hid (fun k hk => Nat.lt_of_lt_of_le (HZ10.out k hk) hg_.size)
          clear hn hb hg_ hat_
          refine hK.out _ _ ?_ (fun hHeld => ?_)
          · exact HK.out _ hb11.out
          · clear hK K
            try simp only [Act.put, List.getElem_toArray, List.getElem_cons_succ, List.getElem_cons_zero, List.setIfInBounds_toArray, List.set_cons_zero, List.set_cons_succ]
            refine wpAnyH_ready (rs := [2]) (by kernel_rfl) (by simp) ?_
            refine AllReadyH.cons rfl (fun K hK => ?_) ?_
            · refine Kd.N_append_rows_step k42 (w0 := wb) wb.heap.size (by first | rfl | simp [Region.wanted]) (.tmp 26) (.tmp 27) 34 42 (.agg #[(.bool false), (.string ⟨#[]⟩), (.slice none 0 0), (.int .i64 0)]) 56 rfl Tryz.underlying34 info42 rfl (by decide) (by omega) v26 [] l0 A0 l0.length c0 (fun _ => True) (fun k => k < w.heap.size) rfl rfl HA11.out (Kd.F_below HFW.out hb11.out) ?hp12 (fun _ _ => trivial) hb11.out (hb11.out).size ?hl12 ?_
              case hp12 => exact fun k hk => ⟨trivial, fun e => absurd (Kd.N_base HA11.out k e.symm) (by omega)⟩
              case hl12 => first | omega | (simp; omega)
              intro v28 x12 hn hb hg_ hat_
              rw [List.nil_append] at hn
              have hb12 := Lib.hid hb
              have HA12 := Lib.hid hn
              have HM12 := Lib.hid (Kd.F_grown HM11.out hg_ HD11.out)
              have HD12 := Lib.hid (apart_app HD11.out HZ11.out hat_)
              have HZ12 := Lib.hid (fun k hk => Nat.lt_of_lt_of_le (HZ11.out k hk) hg_.size)
              clear hn hb hg_ hat_
              refine hK.out _ _ ?_ (fun hHeld => ?_)
              · exact HK.out _ hb12.out
              · clear hK K
                try simp only [Act.put, List.getElem_toArray, List.getElem_cons_succ, List.getElem_cons_zero, List.setIfInBounds_toArray, List.set_cons_zero, List.set_cons_succ]
                refine wpAnyH_ready (rs := [5]) (by kernel_rfl) (by simp) ?_
                refine AllReadyH.cons rfl (fun K hK => ?_) ?_
                · refine Kd.N_append_rows_step k42 (w0 := wb) wb.heap.size (by first | rfl | simp [Region.wanted]) (.tmp 28) (.tmp 30) 34 42 (.agg #[(.bool false), (.string ⟨#[]⟩), (.slice none 0 0), (.int .i64 0)]) 56 rfl Tryz.underlying34 info42 rfl (by decide) (by omega) v28 l0 [(⟨g0, g1, g2, g3⟩ : S42)] A30 _ c30 (fun _ => True) _ rfl rfl HA12.out HM12.out ?hp13 (fun _ _ => trivial) hb12.out (hb12.out).size ?hl13 ?_
                  case hp13 => exact fun k hk => ⟨trivial, HD12.out k hk⟩
                  case hl13 => first | omega | (simp; omega)
                  intro v31 x13 hn hb hg_ hat_
                  have hb13 := Lib.hid hb
                  have HA13 := Lib.hid hn
                  clear hn hb hg_ hat_
                  refine hK.out _ _ ?_ (fun hHeld => ?_)
                  · exact HK.out _ hb13.out
                  · clear hK K
                    try simp only [Act.put, List.getElem_toArray, List.getElem_cons_succ, List.getElem_cons_zero, List.setIfInBounds_toArray, List.set_cons_zero, List.set_cons_succ]
                    refine wpAnyH_ready (rs := [6]) (by kernel_rfl) (by simp) ?_
                    refine AllReadyH.cons rfl (fun K hK => ?_) ?_
                    · obtain ⟨A31, c31, e31⟩ := Kd.N_slice HA13.out
                      subst e31
                      go_simp
                      go_at_call 24
                      have hcall := spec_MatchesOk.calls k24 A31 c31 (l0 ++ [(⟨g0, g1, g2, g3⟩ : S42)]) mok _ (Kd.N_reads' HA13.out).2.2 (Kd.N_reads' HA13.out).2.1 E24.out
                      rw [show (l0 ++ [(⟨g0, g1, g2, g3⟩ : S42)]).length = l0.length + 1 by simp] at hcall
                      refine hcall.mono ?_
                      rintro e x14 ⟨rfl, hbc⟩
                      have hb14 := Lib.hid (below_step (hb13.out) hbc)
                      refine hK.out _ _ ?_ (fun hHeld => ?_)
                      · exact HK.out _ hb14.out
                      · clear hK K
                        try simp only [Act.put, List.getElem_toArray, List.getElem_cons_succ, List.getElem_cons_zero, List.setIfInBounds_toArray, List.set_cons_zero, List.set_cons_succ]
                        refine wpAnyH_take (i := 7) (v := ?_) rfl (by kernel_rfl) (by kernel_rfl) (by kernel_rfl) (fun _ _ _ h => h) (Or.inl ⟨by rfl, ?_⟩) (by assumption) ?_
                        rotate_left
                        · intro w hSw
                          try dsimp only at hSw
                          go_simp
                          try with_reducible rfl
                        simp only [Act.put, List.getElem_toArray, List.getElem_cons_succ, List.getElem_cons_zero, List.setIfInBounds_toArray, List.set_cons_zero, List.set_cons_succ]
                        refine wpAnyH_done (by kernel_rfl) ?_ _
                        go_wp2_with fail
                        go_meet
                        case rel => exact ⟨rfl, hb14.out⟩
                    exact AllReadyH.nil
                exact AllReadyH.nil
            exact AllReadyH.nil
        exact AllReadyH.nil
    exact AllReadyH.nil
  case rest =>
    obtain ⟨rfl, hbc⟩ := hcut
    have HBC := Lib.hid (below_step HB.out hbc)
    have BKC := Lib.hid (blk_below BK.out hbc)
    clear hbc HB BK
    cases mok with
    | false =>
      go_wp2_with fail
      refine (laws_triesWork.calls 0 true _ (Pi.Laid.below HL.out HBC.out) rfl).mono ?_
      rintro e w9 ⟨rfl, hb⟩
      have HB9 := Lib.hid (below_step HBC.out hb)
      clear hb
      go_wp2_with fail
      go_ret
      exact ⟨rfl, HB9.out⟩
    | true =>
      go_wp2_with fail
      go_loopg [37] l0.length (fun kq v37 w' => ∃ i : Nat, v37 = .int .i64 (i : Int) ∧ Aside0 (i + kq = l0.length) ∧ Aside0 (∀ x ∈ l0.take i, eqM x (⟨g0, g1, g2, g3⟩ : S42) = false) ∧ Aside0 (Below w.heap.size w w' ∧ w'.heap[b4]? = some (.cells #[.bool g0, .string g1, .slice A1 g2.length c1, .int .i64 g3] 42 (0, 0))))
      case atStart => exact ⟨0, rfl, ⟨by omega⟩, ⟨by simp⟩, ⟨HBC.out, BKC.out⟩⟩
      case round =>
        obtain ⟨i, rfl, HI, HN, HQ⟩ := hrel
        have HB := Lib.hid HQ.out.1
        have BK := Lib.hid HQ.out.2
        clear HBC BKC HQ
        by_cases hi : i < l0.length
        · have d1 : decide ((i : Int) < (l0.length : Int)) = true := decide_eq_true (by omega)
          have hi2 : i + 1 + (gk - 1) = l0.length := by have := HI.out; omega
          obtain ⟨ad, c, hA, hcl, hFK, hcc, hin⟩ := Kd.F_get (Kd.F_below HF.out HB.out) z42 (i : Int) (by omega) (by omega)
          have hz : l0.getD ((i : Int)).toNat z42 = l0[i] := by simp [hi]
          rw [hz] at hFK
          obtain ⟨Ax, cx, rfl, hlx, hFx⟩ := k42_openF hFK
          subst hA
          have hx0 := hcc 0 _ rfl
          have hx1 := hcc 1 _ rfl
          have hx2 := hcc 2 _ rfl
          have hx3 := hcc 3 _ rfl
          have hsz : k42.sz = 4 := rfl
          rw [hsz, Int.toNat_natCast] at hx0 hx1 hx2 hx3
          rw [Nat.add_zero] at hx0
          rw [add_field _ _ 1 (by omega)] at hx1
          rw [add_field _ _ 2 (by omega)] at hx2
          rw [add_field _ _ 3 (by omega)] at hx3
          have htk : l0.take (i + 1) = l0.take i ++ [l0[i]] := List.take_succ_eq_append_getElem hi
          have hxl : l0[i] ∈ l0 := List.getElem_mem hi
          generalize l0[i] = x at *
          obtain ⟨k30, e30⟩ := Ev.rounds (path_ev x (⟨g0, g1, g2, g3⟩ : S42) (by have := HS.out.pre x hxl; omega) (by have := HS.out.sp x hxl; omega) (by have := HSM.out.sp (⟨g0, g1, g2, g3⟩ : S42) (List.mem_singleton.2 rfl); omega))
          have E30 := Lib.hid e30
          have HFX := Lib.hid hFx
          have HLX := Lib.hid hlx
          have HTK := Lib.hid htk
          have HI2 := Lib.hid hi2
          have HGK := Lib.hid (show gk - 1 < gk by have := HI.out; omega)
          clear hcc hin hFK hFx hcl hz hlx htk hxl e30 hi2 HI
          go_upto_region 7 with (fail)
          go_cut [8] (fun v8 wc => BoxM wr x.f0 x Ax cx v8 wc)
          case first =>
            go_wp2_with fail
            go_meet
            case rel => exact boxM wr x.f0 x Ax cx
          case rest =>
            obtain ⟨b8, rfl, hb8, hbx⟩ := hcut
            clear hx0 hx1 hx2 hx3
            have hq0 := blk_cell hb8 0
            have hq1 := blk_cell hb8 1
            have hq2 := blk_cell hb8 2
            have hq3 := blk_cell hb8 3
            have hb4 : wc.heap[b4]? = _ := blk_below BK.out hbx
            have hp0 := blk_cell hb4 0
            have hp1 := blk_cell hb4 1
            have hp2 := blk_cell hb4 2
            have hp3 := blk_cell hb4 3
            have HBX := Lib.hid (below_step HB.out hbx)
            have BKX := Lib.hid hb4
            have HFX2 := Lib.hid (Kd.F_below HFX.out hbx)
            clear hbx hb4 hb8 HFX HB BK
            by_cases hne : x.f3 = g3
            · have d3 : (x.f3 == g3) = true := by simp [hne]
              generalize hr : decide (wayM x = wayM (⟨g0, g1, g2, g3⟩ : S42)) = rr at *
              have HEQ := Lib.hid (show eqM x (⟨g0, g1, g2, g3⟩ : S42) = rr by unfold eqM; rw [hr, decide_eq_true hne, Bool.true_and])
              clear hr hne
              go_wp2_with fail
              refine (spec_SamePath.calls k30 x.f0 x.f1 Ax cx x.f2 x.f3 g0 g1 A1 c1 g2 g3 rr _ (Kd.F_now HFX2.out) HLX.out (Kd.C_below H1.out HBX.out) hc1 E30.out).mono ?_
              rintro e w9 ⟨rfl, hb⟩
              have HBY := Lib.hid (below_step HBX.out hb)
              have BKY := Lib.hid (blk_below BKX.out hb)
              clear hb hq0 hq1 hq2 hq3 hp0 hp1 hp2 hp3 HBX BKX
              cases rr with
              | true =>
                go_wp2_with fail
                refine (laws_triesWork.calls 0 true _ (Pi.Laid.below HL.out HBY.out) rfl).mono ?_
                rintro e w10 ⟨rfl, hb⟩
                have HB9 := Lib.hid (below_step HBY.out hb)
                clear hb
                go_wp2_with fail
                go_ret
                exact ⟨rfl, HB9.out⟩
              | false =>
                go_wp2_with fail
                go_roundg (gk - 1)
                case measure => exact HGK.out
                case rel =>
                  refine ⟨i + 1, rfl, ⟨HI2.out⟩, ⟨fun y hy => ?_⟩, ⟨HBY.out, BKY.out⟩⟩
                  rw [HTK.out] at hy
                  rcases List.mem_append.1 hy with hy | hy
                  · exact HN.out y hy
                  · rw [List.mem_singleton.1 hy]; exact HEQ.out
            · have d3 : (x.f3 == g3) = false := by simp [hne]
              have HEQ := Lib.hid (show eqM x (⟨g0, g1, g2, g3⟩ : S42) = false by unfold eqM; rw [decide_eq_false hne, Bool.false_and])
              clear hne hp0 hp1 hp2
              go_wp2_with fail
              go_roundg (gk - 1)
              case measure => exact HGK.out
              case rel =>
                refine ⟨i + 1, rfl, ⟨HI2.out⟩, ⟨fun y hy => ?_⟩, ⟨HBX.out, BKX.out⟩⟩
                rw [HTK.out] at hy
                rcases List.mem_append.1 hy with hy | hy
                · exact HN.out y hy
                · rw [List.mem_singleton.1 hy]; exact HEQ.out
        · have d1 : decide ((i : Int) < (l0.length : Int)) = false := decide_eq_false (by omega)
          have hn := HN.out
          rw [List.take_of_length_le (by omega)] at hn
          obtain ⟨k40, e40⟩ := HR1.out (by simp) hn
          obtain ⟨k41, e41⟩ := HR2.out (by simp) hn
          have E40 := Lib.hid e40
          have E41 := Lib.hid e41
          clear hn HN HR1 HR2 e40 e41 HI
          have hp0 := blk_cell BK.out 0
          have hp1 := blk_cell BK.out 1
          have hp2 := blk_cell BK.out 2
          have hp3 := blk_cell BK.out 3
          have hbz : b4 < wr.heap.size := blk_lt BK.out
          have hbz1 : b4 < wr.heap.size + 1 := by omega
          go_upto_region 11 with (fail)
          go_cut [9, 10] (fun v9 v10 wc => ∃ b9 b10, v9 = .pointer (some ⟨b9, 0, none⟩) ∧ v10 = .pointer (some ⟨b10, 0, none⟩) ∧ b9 ≠ b10 ∧ wr.heap.size ≤ b9 ∧ wr.heap.size ≤ b10 ∧ wc.heap[b9]? = some (.cells #[.bool g0, .string g1, .slice A1 g2.length c1, .int .i64 g3] 42 (0, 0)) ∧ wc.heap[b10]? = some (.cells #[.bool g0, .string g1, .slice A1 g2.length c1, .int .i64 g3] 42 (0, 0)) ∧ Below wr.heap.size wr wc)
          case first =>
            go_region
            · go_wp2_with fail
              go_meet
              case rel => exact ⟨wr.heap.size, wr.heap.size + 1, rfl, rfl, by omega, by omega, by omega, two_new1 _ _ _, two_new2 _ _ _, below_drew (below_alloc (below_alloc (Below.refl _ _) _) _)⟩
            · go_wp2_with fail
              go_meet
              case rel => exact ⟨wr.heap.size + 1, wr.heap.size, rfl, rfl, by omega, by omega, by omega, two_new2 _ _ _, two_new1 _ _ _, below_drew (below_alloc (below_alloc (Below.refl _ _) _) _)⟩
          case rest =>
            obtain ⟨b9, b10, rfl, rfl, hne, hge9, hge10, hb9, hb10, hbc⟩ := hcut
            clear hp0 hp1 hp2 hp3
            have hs9 := blk_cell hb9 0
            have hs10 := blk_cell hb10 0
            have hz9 := blk_frozen hb9 0
            have hz10 := blk_frozen hb10 0
            have hwr : w.heap.size ≤ wr.heap.size := HB.out.size
            have HBD := Lib.hid (((below_step HB.out hbc).setCell (p := ⟨b9, 0, none⟩) (show w.heap.size ≤ b9 by omega) (.bool false)).setCell (p := ⟨b10, 0, none⟩) (show w.heap.size ≤ b10 by omega) (.bool true))
            have HB9 := Lib.hid (show ((wc.setCell ⟨b9, 0, none⟩ (.bool false)).setCell ⟨b10, 0, none⟩ (.bool true)).heap[b9]? = some (.cells #[.bool false, .string g1, .slice A1 g2.length c1, .int .i64 g3] 42 (0, 0)) by have h := blk_far (blk_set hb9 0 (.bool false)) (p := ⟨b10, 0, none⟩) hne (.bool true); simpa using h)
            have HB10 := Lib.hid (show ((wc.setCell ⟨b9, 0, none⟩ (.bool false)).setCell ⟨b10, 0, none⟩ (.bool true)).heap[b10]? = some (.cells #[.bool true, .string g1, .slice A1 g2.length c1, .int .i64 g3] 42 (0, 0)) by have h := blk_set (blk_far hb10 (p := ⟨b9, 0, none⟩) (fun e => hne e.symm) (.bool false)) 0 (.bool true); simpa using h)
            have HFW := Lib.hid (Kd.F_below HF.out HBD.out)
            have HFMW := Lib.hid (Kd.F_below HFM.out HBD.out)
            have HNE := Lib.hid hne
            have hne2 : b10 ≠ b9 := fun e => hne e.symm
            clear hb9 hb10 hbc
            go_upto_region 13 with (fail)
            clear hne hne2
            generalize (wc.setCell ⟨b9, 0, none⟩ (.bool false)).setCell ⟨b10, 0, none⟩ (.bool true) = wd at *
            clear hs9 hs10 hz9 hz10 hge9 hge10
            have hle : w.heap.size ≤ wd.heap.size := HBD.out.size
            go_cut [11, 12] (fun v11 v12 wc => TwoRows wd r v11 v12 wc)
            case first =>
              have HK13 := Lib.hid (fun (x : World) (hx : Below wd.heap.size wd x) => (show x.cell? ⟨b9, 0, none⟩ = some (.bool false) ∧ x.cell? ⟨b9, 1, none⟩ = some (.string g1) ∧ x.cell? ⟨b9, 2, none⟩ = some (.slice A1 g2.length c1) ∧ x.cell? ⟨b9, 3, none⟩ = some (.int .i64 g3) ∧ x.cell? ⟨b10, 0, none⟩ = some (.bool true) ∧ x.cell? ⟨b10, 1, none⟩ = some (.string g1) ∧ x.cell? ⟨b10, 2, none⟩ = some (.slice A1 g2.length c1) ∧ x.cell? ⟨b10, 3, none⟩ = some (.int .i64 g3) ∧ Below wd.heap.size wd x from ⟨blk_cell (blk_below HB9.out hx) 0, blk_cell (blk_below HB9.out hx) 1, blk_cell (blk_below HB9.out hx) 2, blk_cell (blk_below HB9.out hx) 3, blk_cell (blk_below HB10.out hx) 0, blk_cell (blk_below HB10.out hx) 1, blk_cell (blk_below HB10.out hx) 2, blk_cell (blk_below HB10.out hx) 3, hx⟩))
              refine wp_region_held_drew (S := (fun x => x.cell? ⟨b9, 0, none⟩ = some (.bool false) ∧ x.cell? ⟨b9, 1, none⟩ = some (.string g1) ∧ x.cell? ⟨b9, 2, none⟩ = some (.slice A1 g2.length c1) ∧ x.cell? ⟨b9, 3, none⟩ = some (.int .i64 g3) ∧ x.cell? ⟨b10, 0, none⟩ = some (.bool true) ∧ x.cell? ⟨b10, 1, none⟩ = some (.string g1) ∧ x.cell? ⟨b10, 2, none⟩ = some (.slice A1 g2.length c1) ∧ x.cell? ⟨b10, 3, none⟩ = some (.int .i64 g3) ∧ Below wd.heap.size wd x)) (by kernel_rfl) ?_ (fun hHeld => ?_)
              · exact HK13.out _ (below_drew (Below.refl _ _))
              refine wpAnyH_take (i := 0) (v := ?_) rfl (by kernel_rfl) (by kernel_rfl) (by kernel_rfl) (fun _ _ _ h => h) (Or.inl ⟨by rfl, ?_⟩) (by assumption) ?_
              rotate_left
              · intro w hSw
                try dsimp only at hSw
                go_simp
                try with_reducible rfl
              simp only [Act.put, List.getElem_toArray, List.getElem_cons_succ, List.getElem_cons_zero, List.setIfInBounds_toArray, List.set_cons_zero, List.set_cons_succ]
              refine wpAnyH_take (i := 1) (v := ?_) rfl (by kernel_rfl) (by kernel_rfl) (by kernel_rfl) (fun _ _ _ h => h) (Or.inl ⟨by rfl, ?_⟩) (by assumption) ?_
              rotate_left
              · intro w hSw
                try dsimp only at hSw
                go_simp
                try with_reducible rfl
              simp only [Act.put, List.getElem_toArray, List.getElem_cons_succ, List.getElem_cons_zero, List.setIfInBounds_toArray, List.set_cons_zero, List.set_cons_succ]
              refine wpAnyH_take (i := 4) (v := ?_) rfl (by kernel_rfl) (by kernel_rfl) (by kernel_rfl) (fun _ _ _ h => h) (Or.inl ⟨by rfl, ?_⟩) (by assumption) ?_
              rotate_left
              · intro w hSw
                try dsimp only at hSw
                go_simp
                try with_reducible rfl
              simp only [Act.put, List.getElem_toArray, List.getElem_cons_succ, List.getElem_cons_zero, List.setIfInBounds_toArray, List.set_cons_zero, List.set_cons_succ]
              refine wpAnyH_take (i := 6) (v := ?_) rfl (by kernel_rfl) (by kernel_rfl) (by kernel_rfl) (fun _ _ _ h => h) (Or.inl ⟨by rfl, ?_⟩) (by assumption) ?_
              rotate_left
              · intro w hSw
                try dsimp only at hSw
                go_simp
                try with_reducible rfl
              simp only [Act.put, List.getElem_toArray, List.getElem_cons_succ, List.getElem_cons_zero, List.setIfInBounds_toArray, List.set_cons_zero, List.set_cons_succ]
              refine wpAnyH_take (i := 7) (v := ?_) rfl (by kernel_rfl) (by kernel_rfl) (by kernel_rfl) (fun _ _ _ h => h) (Or.inl ⟨by rfl, ?_⟩) (by assumption) ?_
              rotate_left
              · intro w hSw
                try dsimp only at hSw
                go_simp
                try with_reducible rfl
              simp only [Act.put, List.getElem_toArray, List.getElem_cons_succ, List.getElem_cons_zero, List.setIfInBounds_toArray, List.set_cons_zero, List.set_cons_succ]
              refine wpAnyH_take (i := 10) (v := ?_) rfl (by kernel_rfl) (by kernel_rfl) (by kernel_rfl) (fun _ _ _ h => h) (Or.inl ⟨by rfl, ?_⟩) (by assumption) ?_
              rotate_left
              · intro w hSw
                try dsimp only at hSw
                go_simp
                try with_reducible rfl
              simp only [Act.put, List.getElem_toArray, List.getElem_cons_succ, List.getElem_cons_zero, List.setIfInBounds_toArray, List.set_cons_zero, List.set_cons_succ]
              refine wpAnyH_ready (rs := [2, 3, 8]) (by kernel_rfl) (by simp) ?_
              refine AllReadyH.cons rfl (fun K hK => ?_) ?_
              · try go_simp
                go_at_call 26
                refine (laws_of.calls k40 A0 c0 l0 A2 c2 l2 r _ (Kd.C_below H0.out (below_step HBD.out (below_drew (Below.refl wd.heap.size wd)))) hc0 (Kd.C_below H2.out (below_step HBD.out (below_drew (Below.refl wd.heap.size wd)))) hc2 (Pi.Laid.below HL.out (below_step HBD.out (below_drew (Below.refl wd.heap.size wd)))) E40.out).mono ?_
                rintro e y1 ⟨v59, rfl, hv, hbc⟩
                obtain ⟨A59, c59, e59⟩ := Kd.S_slice hv
                subst e59
                have hcy1 := Lib.hid (below_step ((below_drew (Below.refl wd.heap.size wd))) hbc)
                have HR1 := Lib.hid (Kd.F_mono (Kd.S_F (Kd.S_bound hv)) (ok' := fun k => (wd.drew).heap.size ≤ k ∧ k < y1.heap.size) (fun k hk => ⟨hk.2.1, hk.2.2.1⟩))
                have HRC := Lib.hid (Kd.S_reads' hv).2.1
                have HRZ1 := Lib.hid (show ∀ k, (wd.drew).heap.size ≤ k ∧ k < y1.heap.size → k < y1.heap.size from fun k hk => hk.2)
                clear hv hbc
                refine hK.out _ _ ?_ (fun hHeld => ?_)
                · exact HK13.out _ hcy1.out
                · clear hK K
                  try simp only [Act.put, List.getElem_toArray, List.getElem_cons_succ, List.getElem_cons_zero, List.setIfInBounds_toArray, List.set_cons_zero, List.set_cons_succ]
                  refine wpAnyH_ready (rs := [3, 8]) (by kernel_rfl) (by simp) ?_
                  refine AllReadyH.cons rfl (fun K hK => ?_) ?_
                  · refine Kd.N_lit_step k42 (w0 := wd) wd.heap.size 42 (by first | rfl | simp [Region.wanted]) (N' := 60) rfl (xs := ([] : List S42)) (inner := []) (ok := fun _ => True) (okp := fun _ => True) ?hr2 (Reps.none _ _) (fun _ hk => hk) trivial hcy1.out (hcy1.out).size (by simp) ?_
                    case hr2 => first | (go_simp; done) | (go_simp; rfl)
                    intro v60 y2 hn hb hg_ hat_
                    have hcy2 := Lib.hid hb
                    have HA2 := Lib.hid hn
                    have HR2 := Lib.hid (Kd.F_grown HR1.out hg_ (fun _ _ => by simp))
                    have HRD2 := Lib.hid (apart_lit (W1 := y2) HRZ1.out hat_)
                    have HRZ2 := Lib.hid (fun k hk => Nat.lt_of_lt_of_le (HRZ1.out k hk) hg_.size)
                    clear hn hb hg_ hat_
                    refine hK.out _ _ ?_ (fun hHeld => ?_)
                    · exact HK13.out _ hcy2.out
                    · clear hK K
                      try simp only [Act.put, List.getElem_toArray, List.getElem_cons_succ, List.getElem_cons_zero, List.setIfInBounds_toArray, List.set_cons_zero, List.set_cons_succ]
                      refine wpAnyH_ready (rs := [5, 8]) (by kernel_rfl) (by simp) ?_
                      refine AllReadyH.cons rfl (fun K hK => ?_) ?_
                      · refine Kd.N_append_rows_step k42 (w0 := wd) wd.heap.size (by first | rfl | simp [Region.wanted]) (.tmp 60) (.tmp 61) 34 42 (.agg #[(.bool false), (.string ⟨#[]⟩), (.slice none 0 0), (.int .i64 0)]) 56 rfl Tryz.underlying34 info42 rfl (by decide) (by omega) v60 [] l0 A0 l0.length c0 (fun _ => True) (fun k => k < w.heap.size) rfl rfl HA2.out (Kd.F_below HFW.out hcy2.out) ?hp3 (fun _ _ => trivial) hcy2.out (hcy2.out).size ?hl3 ?_
                        case hp3 => exact fun k hk => ⟨trivial, fun e => absurd (Kd.N_base HA2.out k e.symm) (by omega)⟩
                        case hl3 => first | omega | (simp; omega)
                        intro v62 y3 hn hb hg_ hat_
                        rw [List.nil_append] at hn
                        have hcy3 := Lib.hid hb
                        have HA3 := Lib.hid hn
                        have HR3 := Lib.hid (Kd.F_grown HR2.out hg_ HRD2.out)
                        have HRD3 := Lib.hid (apart_app HRD2.out HRZ2.out hat_)
                        have HRZ3 := Lib.hid (fun k hk => Nat.lt_of_lt_of_le (HRZ2.out k hk) hg_.size)
                        clear hn hb hg_ hat_
                        refine hK.out _ _ ?_ (fun hHeld => ?_)
                        · exact HK13.out _ hcy3.out
                        · clear hK K
                          try simp only [Act.put, List.getElem_toArray, List.getElem_cons_succ, List.getElem_cons_zero, List.setIfInBounds_toArray, List.set_cons_zero, List.set_cons_succ]
                          refine wpAnyH_ready (rs := [8]) (by kernel_rfl) (by simp) ?_
                          refine AllReadyH.cons rfl (fun K hK => ?_) ?_
                          · refine Kd.N_lit_step k42 (w0 := wd) wd.heap.size 42 (by first | rfl | simp [Region.wanted]) (N' := 65) rfl (xs := [(⟨false, g1, g2, g3⟩ : S42), (⟨true, g1, g2, g3⟩ : S42)]) (inner := [.bool false, .string g1, .slice A1 g2.length c1, .int .i64 g3, .bool true, .string g1, .slice A1 g2.length c1, .int .i64 g3]) (ok := fun k => k < wd.heap.size ∨ (y3).heap.size ≤ k) (okp := fun k => k < wd.heap.size) ?hr4 (Reps.front (c := [.bool false, .string g1, .slice A1 g2.length c1, .int .i64 g3]) (k42_mkF _ _ (⟨false, g1, g2, g3⟩ : S42) hc1 (Kd.F_mono (Kd.F_below HFMW.out (hcy3.out)) (fun k hk => Nat.lt_of_lt_of_le hk hle))) rfl (Reps.front (c := [.bool true, .string g1, .slice A1 g2.length c1, .int .i64 g3]) (k42_mkF _ _ (⟨true, g1, g2, g3⟩ : S42) hc1 (Kd.F_mono (Kd.F_below HFMW.out (hcy3.out)) (fun k hk => Nat.lt_of_lt_of_le hk hle))) rfl (Reps.none _ _) rfl) rfl) (fun _ hk => .inl hk) (.inr (Nat.le_refl _)) hcy3.out (hcy3.out).size (by simp) ?_
                            case hr4 => first | (go_simp; done) | (go_simp; rfl)
                            intro v65 y4 hn hb hg_ hat_
                            have hcy4 := Lib.hid hb
                            obtain ⟨A65, c65, e65⟩ := Kd.N_slice hn
                            subst e65
                            have HM4 := Lib.hid (newOk_F (W := y3) hn)
                            have HMZ4 := Lib.hid (newOk_lt (base := wd.heap.size) (W := y3) (W1 := y4) (Nat.le_refl y4.heap.size))
                            have HMD4 := Lib.hid (newOk_apart (d := 0) (W1 := y4) HA3.out)
                            have HA4 := Lib.hid (Kd.N_grown HA3.out hg_ (fun _ _ => by simp))
                            have HR4 := Lib.hid (Kd.F_grown HR3.out hg_ (fun _ _ => by simp))
                            have HRZ4 := Lib.hid (fun k hk => Nat.lt_of_lt_of_le (HRZ3.out k hk) hg_.size)
                            clear hn hb hg_ hat_
                            refine hK.out _ _ ?_ (fun hHeld => ?_)
                            · exact HK13.out _ hcy4.out
                            · clear hK K
                              try simp only [Act.put, List.getElem_toArray, List.getElem_cons_succ, List.getElem_cons_zero, List.setIfInBounds_toArray, List.set_cons_zero, List.set_cons_succ]
                              refine wpAnyH_ready (rs := [9]) (by kernel_rfl) (by simp) ?_
                              refine AllReadyH.cons rfl (fun K hK => ?_) ?_
                              · refine Kd.N_append_rows_step k42 (w0 := wd) wd.heap.size (by first | rfl | simp [Region.wanted]) (.tmp 62) (.tmp 65) 34 42 (.agg #[(.bool false), (.string ⟨#[]⟩), (.slice none 0 0), (.int .i64 0)]) 56 rfl Tryz.underlying34 info42 rfl (by decide) (by omega) v62 l0 [(⟨false, g1, g2, g3⟩ : S42), (⟨true, g1, g2, g3⟩ : S42)] A65 _ c65 (fun _ => True) _ rfl rfl HA4.out HM4.out ?hp5 (fun _ _ => trivial) hcy4.out (hcy4.out).size ?hl5 ?_
                                case hp5 => exact fun k hk => ⟨trivial, HMD4.out k hk⟩
                                case hl5 => first | omega | (simp; omega)
                                intro v66 y5 hn hb hg_ hat_
                                have hcy5 := Lib.hid hb
                                have HA5 := Lib.hid hn
                                have HM5 := Lib.hid (Kd.F_grown HM4.out hg_ HMD4.out)
                                have HMD5 := Lib.hid (apart_app HMD4.out HMZ4.out hat_)
                                have HMZ5 := Lib.hid (fun k hk => Nat.lt_of_lt_of_le (HMZ4.out k hk) hg_.size)
                                have HR5 := Lib.hid (Kd.F_grown HR4.out hg_ HRD3.out)
                                have HRD5 := Lib.hid (apart_app HRD3.out HRZ4.out hat_)
                                have HRZ5 := Lib.hid (fun k hk => Nat.lt_of_lt_of_le (HRZ4.out k hk) hg_.size)
                                clear hn hb hg_ hat_
                                refine hK.out _ _ ?_ (fun hHeld => ?_)
                                · exact HK13.out _ hcy5.out
                                · clear hK K
                                  try simp only [Act.put, List.getElem_toArray, List.getElem_cons_succ, List.getElem_cons_zero, List.setIfInBounds_toArray, List.set_cons_zero, List.set_cons_succ]
                                  refine wpAnyH_ready (rs := [11]) (by kernel_rfl) (by simp) ?_
                                  refine AllReadyH.cons rfl (fun K hK => ?_) ?_
                                  · obtain ⟨A66, c66, e66⟩ := Kd.N_slice HA5.out
                                    subst e66
                                    try go_simp
                                    go_at_call 26
                                    have hcall := laws_of.calls k41 A66 c66 (l0 ++ [(⟨false, g1, g2, g3⟩ : S42), (⟨true, g1, g2, g3⟩ : S42)]) A2 c2 l2 r _ (Kd.N_reads' HA5.out).2.2 (Kd.N_reads' HA5.out).2.1 (Kd.C_below H2.out (below_step HBD.out hcy5.out)) hc2 (Pi.Laid.below HL.out (below_step HBD.out hcy5.out)) E41.out
                                    rw [show (l0 ++ [(⟨false, g1, g2, g3⟩ : S42), (⟨true, g1, g2, g3⟩ : S42)]).length = l0.length + 2 by simp] at hcall
                                    refine hcall.mono ?_
                                    rintro e y6 ⟨v68, rfl, hv, hbc⟩
                                    obtain ⟨A68, c68, e68⟩ := Kd.S_slice hv
                                    subst e68
                                    have hcy6 := Lib.hid (below_step (hcy5.out) hbc)
                                    have HV6 := Lib.hid hv
                                    have HR6 := Lib.hid (Kd.F_below HR5.out hbc)
                                    have HRZ6 := Lib.hid (fun k hk => Nat.lt_of_lt_of_le (HRZ5.out k hk) hbc.size)
                                    clear hv hbc hcall
                                    refine hK.out _ _ ?_ (fun hHeld => ?_)
                                    · exact HK13.out _ hcy6.out
                                    · clear hK K
                                      try simp only [Act.put, List.getElem_toArray, List.getElem_cons_succ, List.getElem_cons_zero, List.setIfInBounds_toArray, List.set_cons_zero, List.set_cons_succ]
                                      refine wpAnyH_take (i := 12) (v := ?_) rfl (by kernel_rfl) (by kernel_rfl) (by kernel_rfl) (fun _ _ _ h => h) (Or.inl ⟨by rfl, ?_⟩) (by assumption) ?_
                                      rotate_left
                                      · intro w hSw
                                        try dsimp only at hSw
                                        go_simp
                                        try with_reducible rfl
                                      simp only [Act.put, List.getElem_toArray, List.getElem_cons_succ, List.getElem_cons_zero, List.setIfInBounds_toArray, List.set_cons_zero, List.set_cons_succ]
                                      refine wpAnyH_take (i := 13) (v := ?_) rfl (by kernel_rfl) (by kernel_rfl) (by kernel_rfl) (fun _ _ _ h => h) (Or.inl ⟨by rfl, ?_⟩) (by assumption) ?_
                                      rotate_left
                                      · intro w hSw
                                        try dsimp only at hSw
                                        go_simp
                                        try with_reducible rfl
                                      simp only [Act.put, List.getElem_toArray, List.getElem_cons_succ, List.getElem_cons_zero, List.setIfInBounds_toArray, List.set_cons_zero, List.set_cons_succ]
                                      refine wpAnyH_done (by kernel_rfl) ?_ _
                                      go_wp2_with fail
                                      go_meet
                                      case rel => exact ⟨A59, c59, A68, c68, rfl, rfl, Kd.F_now HR6.out, HRC.out, (Kd.S_reads' HV6.out).2.2, (Kd.S_reads' HV6.out).2.1, hcy6.out⟩
                                  exact AllReadyH.nil
                              exact AllReadyH.nil
                          exact AllReadyH.nil
                      refine AllReadyH.cons rfl (fun K hK => ?_) ?_
                      · refine Kd.N_lit_step k42 (w0 := wd) wd.heap.size 42 (by first | rfl | simp [Region.wanted]) (N' := 65) rfl (xs := [(⟨false, g1, g2, g3⟩ : S42), (⟨true, g1, g2, g3⟩ : S42)]) (inner := [.bool false, .string g1, .slice A1 g2.length c1, .int .i64 g3, .bool true, .string g1, .slice A1 g2.length c1, .int .i64 g3]) (ok := fun k => k < wd.heap.size ∨ (y2).heap.size ≤ k) (okp := fun k => k < wd.heap.size) ?hr7 (Reps.front (c := [.bool false, .string g1, .slice A1 g2.length c1, .int .i64 g3]) (k42_mkF _ _ (⟨false, g1, g2, g3⟩ : S42) hc1 (Kd.F_mono (Kd.F_below HFMW.out (hcy2.out)) (fun k hk => Nat.lt_of_lt_of_le hk hle))) rfl (Reps.front (c := [.bool true, .string g1, .slice A1 g2.length c1, .int .i64 g3]) (k42_mkF _ _ (⟨true, g1, g2, g3⟩ : S42) hc1 (Kd.F_mono (Kd.F_below HFMW.out (hcy2.out)) (fun k hk => Nat.lt_of_lt_of_le hk hle))) rfl (Reps.none _ _) rfl) rfl) (fun _ hk => .inl hk) (.inr (Nat.le_refl _)) hcy2.out (hcy2.out).size (by simp) ?_
                        case hr7 => first | (go_simp; done) | (go_simp; rfl)
                        intro v65 y7 hn hb hg_ hat_
                        have hcy7 := Lib.hid hb
                        obtain ⟨A65, c65, e65⟩ := Kd.N_slice hn
                        subst e65
                        have HM7 := Lib.hid (newOk_F (W := y2) hn)
                        have HMZ7 := Lib.hid (newOk_lt (base := wd.heap.size) (W := y2) (W1 := y7) (Nat.le_refl y7.heap.size))
                        have HMD7 := Lib.hid (newOk_apart (d := 0) (W1 := y7) HA2.out)
                        have HA7 := Lib.hid (Kd.N_grown HA2.out hg_ (fun _ _ => by simp))
                        have HR7 := Lib.hid (Kd.F_grown HR2.out hg_ (fun _ _ => by simp))
                        have HRZ7 := Lib.hid (fun k hk => Nat.lt_of_lt_of_le (HRZ2.out k hk) hg_.size)
                        clear hn hb hg_ hat_
                        refine hK.out _ _ ?_ (fun hHeld => ?_)
                        · exact HK13.out _ hcy7.out
                        · clear hK K
                          try simp only [Act.put, List.getElem_toArray, List.getElem_cons_succ, List.getElem_cons_zero, List.setIfInBounds_toArray, List.set_cons_zero, List.set_cons_succ]
                          refine wpAnyH_ready (rs := [5]) (by kernel_rfl) (by simp) ?_
                          refine AllReadyH.cons rfl (fun K hK => ?_) ?_
                          · refine Kd.N_append_rows_step k42 (w0 := wd) wd.heap.size (by first | rfl | simp [Region.wanted]) (.tmp 60) (.tmp 61) 34 42 (.agg #[(.bool false), (.string ⟨#[]⟩), (.slice none 0 0), (.int .i64 0)]) 56 rfl Tryz.underlying34 info42 rfl (by decide) (by omega) v60 [] l0 A0 l0.length c0 (fun _ => True) (fun k => k < w.heap.size) rfl rfl HA7.out (Kd.F_below HFW.out hcy7.out) ?hp8 (fun _ _ => trivial) hcy7.out (hcy7.out).size ?hl8 ?_
                            case hp8 => exact fun k hk => ⟨trivial, fun e => absurd (Kd.N_base HA7.out k e.symm) (by omega)⟩
                            case hl8 => first | omega | (simp; omega)
                            intro v62 y8 hn hb hg_ hat_
                            rw [List.nil_append] at hn
                            have hcy8 := Lib.hid hb
                            have HA8 := Lib.hid hn
                            have HM8 := Lib.hid (Kd.F_grown HM7.out hg_ HMD7.out)
                            have HMD8 := Lib.hid (apart_app HMD7.out HMZ7.out hat_)
                            have HMZ8 := Lib.hid (fun k hk => Nat.lt_of_lt_of_le (HMZ7.out k hk) hg_.size)
                            have HR8 := Lib.hid (Kd.F_grown HR7.out hg_ HRD2.out)
                            have HRD8 := Lib.hid (apart_app HRD2.out HRZ7.out hat_)
                            have HRZ8 := Lib.hid (fun k hk => Nat.lt_of_lt_of_le (HRZ7.out k hk) hg_.size)
                            clear hn hb hg_ hat_
                            refine hK.out _ _ ?_ (fun hHeld => ?_)
                            · exact HK13.out _ hcy8.out
                            · clear hK K
                              try simp only [Act.put, List.getElem_toArray, List.getElem_cons_succ, List.getElem_cons_zero, List.setIfInBounds_toArray, List.set_cons_zero, List.set_cons_succ]
                              refine wpAnyH_ready (rs := [9]) (by kernel_rfl) (by simp) ?_
                              refine AllReadyH.cons rfl (fun K hK => ?_) ?_
                              · refine Kd.N_append_rows_step k42 (w0 := wd) wd.heap.size (by first | rfl | simp [Region.wanted]) (.tmp 62) (.tmp 65) 34 42 (.agg #[(.bool false), (.string ⟨#[]⟩), (.slice none 0 0), (.int .i64 0)]) 56 rfl Tryz.underlying34 info42 rfl (by decide) (by omega) v62 l0 [(⟨false, g1, g2, g3⟩ : S42), (⟨true, g1, g2, g3⟩ : S42)] A65 _ c65 (fun _ => True) _ rfl rfl HA8.out HM8.out ?hp9 (fun _ _ => trivial) hcy8.out (hcy8.out).size ?hl9 ?_
                                case hp9 => exact fun k hk => ⟨trivial, HMD8.out k hk⟩
                                case hl9 => first | omega | (simp; omega)
                                intro v66 y9 hn hb hg_ hat_
                                have hcy9 := Lib.hid hb
                                have HA9 := Lib.hid hn
                                have HM9 := Lib.hid (Kd.F_grown HM8.out hg_ HMD8.out)
                                have HMD9 := Lib.hid (apart_app HMD8.out HMZ8.out hat_)
                                have HMZ9 := Lib.hid (fun k hk => Nat.lt_of_lt_of_le (HMZ8.out k hk) hg_.size)
                                have HR9 := Lib.hid (Kd.F_grown HR8.out hg_ HRD8.out)
                                have HRD9 := Lib.hid (apart_app HRD8.out HRZ8.out hat_)
                                have HRZ9 := Lib.hid (fun k hk => Nat.lt_of_lt_of_le (HRZ8.out k hk) hg_.size)
                                clear hn hb hg_ hat_
                                refine hK.out _ _ ?_ (fun hHeld => ?_)
                                · exact HK13.out _ hcy9.out
                                · clear hK K
                                  try simp only [Act.put, List.getElem_toArray, List.getElem_cons_succ, List.getElem_cons_zero, List.setIfInBounds_toArray, List.set_cons_zero, List.set_cons_succ]
                                  refine wpAnyH_ready (rs := [11]) (by kernel_rfl) (by simp) ?_
                                  refine AllReadyH.cons rfl (fun K hK => ?_) ?_
                                  · obtain ⟨A66, c66, e66⟩ := Kd.N_slice HA9.out
                                    subst e66
                                    try go_simp
                                    go_at_call 26
                                    have hcall := laws_of.calls k41 A66 c66 (l0 ++ [(⟨false, g1, g2, g3⟩ : S42), (⟨true, g1, g2, g3⟩ : S42)]) A2 c2 l2 r _ (Kd.N_reads' HA9.out).2.2 (Kd.N_reads' HA9.out).2.1 (Kd.C_below H2.out (below_step HBD.out hcy9.out)) hc2 (Pi.Laid.below HL.out (below_step HBD.out hcy9.out)) E41.out
                                    rw [show (l0 ++ [(⟨false, g1, g2, g3⟩ : S42), (⟨true, g1, g2, g3⟩ : S42)]).length = l0.length + 2 by simp] at hcall
                                    refine hcall.mono ?_
                                    rintro e y10 ⟨v68, rfl, hv, hbc⟩
                                    obtain ⟨A68, c68, e68⟩ := Kd.S_slice hv
                                    subst e68
                                    have hcy10 := Lib.hid (below_step (hcy9.out) hbc)
                                    have HV10 := Lib.hid hv
                                    have HR10 := Lib.hid (Kd.F_below HR9.out hbc)
                                    have HRZ10 := Lib.hid (fun k hk => Nat.lt_of_lt_of_le (HRZ9.out k hk) hbc.size)
                                    clear hv hbc hcall
                                    refine hK.out _ _ ?_ (fun hHeld => ?_)
                                    · exact HK13.out _ hcy10.out
                                    · clear hK K
                                      try simp only [Act.put, List.getElem_toArray, List.getElem_cons_succ, List.getElem_cons_zero, List.setIfInBounds_toArray, List.set_cons_zero, List.set_cons_succ]
                                      refine wpAnyH_take (i := 12) (v := ?_) rfl (by kernel_rfl) (by kernel_rfl) (by kernel_rfl) (fun _ _ _ h => h) (Or.inl ⟨by rfl, ?_⟩) (by assumption) ?_
                                      rotate_left
                                      · intro w hSw
                                        try dsimp only at hSw
                                        go_simp
                                        try with_reducible rfl
                                      simp only [Act.put, List.getElem_toArray, List.getElem_cons_succ, List.getElem_cons_zero, List.setIfInBounds_toArray, List.set_cons_zero, List.set_cons_succ]
                                      refine wpAnyH_take (i := 13) (v := ?_) rfl (by kernel_rfl) (by kernel_rfl) (by kernel_rfl) (fun _ _ _ h => h) (Or.inl ⟨by rfl, ?_⟩) (by assumption) ?_
                                      rotate_left
                                      · intro w hSw
                                        try dsimp only at hSw
                                        go_simp
                                        try with_reducible rfl
                                      simp only [Act.put, List.getElem_toArray, List.getElem_cons_succ, List.getElem_cons_zero, List.setIfInBounds_toArray, List.set_cons_zero, List.set_cons_succ]
                                      refine wpAnyH_done (by kernel_rfl) ?_ _
                                      go_wp2_with fail
                                      go_meet
                                      case rel => exact ⟨A59, c59, A68, c68, rfl, rfl, Kd.F_now HR10.out, HRC.out, (Kd.S_reads' HV10.out).2.2, (Kd.S_reads' HV10.out).2.1, hcy10.out⟩
                                  exact AllReadyH.nil
                              exact AllReadyH.nil
                          exact AllReadyH.nil
                      exact AllReadyH.nil
                  refine AllReadyH.cons rfl (fun K hK => ?_) ?_
                  · refine Kd.N_lit_step k42 (w0 := wd) wd.heap.size 42 (by first | rfl | simp [Region.wanted]) (N' := 65) rfl (xs := [(⟨false, g1, g2, g3⟩ : S42), (⟨true, g1, g2, g3⟩ : S42)]) (inner := [.bool false, .string g1, .slice A1 g2.length c1, .int .i64 g3, .bool true, .string g1, .slice A1 g2.length c1, .int .i64 g3]) (ok := fun k => k < wd.heap.size ∨ (y1).heap.size ≤ k) (okp := fun k => k < wd.heap.size) ?hr11 (Reps.front (c := [.bool false, .string g1, .slice A1 g2.length c1, .int .i64 g3]) (k42_mkF _ _ (⟨false, g1, g2, g3⟩ : S42) hc1 (Kd.F_mono (Kd.F_below HFMW.out (hcy1.out)) (fun k hk => Nat.lt_of_lt_of_le hk hle))) rfl (Reps.front (c := [.bool true, .string g1, .slice A1 g2.length c1, .int .i64 g3]) (k42_mkF _ _ (⟨true, g1, g2, g3⟩ : S42) hc1 (Kd.F_mono (Kd.F_below HFMW.out (hcy1.out)) (fun k hk => Nat.lt_of_lt_of_le hk hle))) rfl (Reps.none _ _) rfl) rfl) (fun _ hk => .inl hk) (.inr (Nat.le_refl _)) hcy1.out (hcy1.out).size (by simp) ?_
                    case hr11 => first | (go_simp; done) | (go_simp; rfl)
                    intro v65 y11 hn hb hg_ hat_
                    have hcy11 := Lib.hid hb
                    obtain ⟨A65, c65, e65⟩ := Kd.N_slice hn
                    subst e65
                    have HM11 := Lib.hid (newOk_F (W := y1) hn)
                    have HMZ11 := Lib.hid (newOk_lt (base := wd.heap.size) (W := y1) (W1 := y11) (Nat.le_refl y11.heap.size))
                    have HR11 := Lib.hid (Kd.F_grown HR1.out hg_ (fun _ _ => by simp))
                    have HRZ11 := Lib.hid (fun k hk => Nat.lt_of_lt_of_le (HRZ1.out k hk) hg_.size)
                    clear hn hb hg_ hat_
                    refine hK.out _ _ ?_ (fun hHeld => ?_)
                    · exact HK13.out _ hcy11.out
                    · clear hK K
                      try simp only [Act.put, List.getElem_toArray, List.getElem_cons_succ, List.getElem_cons_zero, List.setIfInBounds_toArray, List.set_cons_zero, List.set_cons_succ]
                      refine wpAnyH_ready (rs := [3]) (by kernel_rfl) (by simp) ?_
                      refine AllReadyH.cons rfl (fun K hK => ?_) ?_
                      · refine Kd.N_lit_step k42 (w0 := wd) wd.heap.size 42 (by first | rfl | simp [Region.wanted]) (N' := 60) rfl (xs := ([] : List S42)) (inner := []) (ok := fun _ => True) (okp := fun _ => True) ?hr12 (Reps.none _ _) (fun _ hk => hk) trivial hcy11.out (hcy11.out).size (by simp) ?_
                        case hr12 => first | (go_simp; done) | (go_simp; rfl)
                        intro v60 y12 hn hb hg_ hat_
                        have hcy12 := Lib.hid hb
                        have HA12 := Lib.hid hn
                        have HM12 := Lib.hid (Kd.F_grown HM11.out hg_ (fun _ _ => by simp))
                        have HMD12 := Lib.hid (apart_lit (W1 := y12) HMZ11.out hat_)
                        have HMZ12 := Lib.hid (fun k hk => Nat.lt_of_lt_of_le (HMZ11.out k hk) hg_.size)
                        have HR12 := Lib.hid (Kd.F_grown HR11.out hg_ (fun _ _ => by simp))
                        have HRD12 := Lib.hid (apart_lit (W1 := y12) HRZ11.out hat_)
                        have HRZ12 := Lib.hid (fun k hk => Nat.lt_of_lt_of_le (HRZ11.out k hk) hg_.size)
                        clear hn hb hg_ hat_
                        refine hK.out _ _ ?_ (fun hHeld => ?_)
                        · exact HK13.out _ hcy12.out
                        · clear hK K
                          try simp only [Act.put, List.getElem_toArray, List.getElem_cons_succ, List.getElem_cons_zero, List.setIfInBounds_toArray, List.set_cons_zero, List.set_cons_succ]
                          refine wpAnyH_ready (rs := [5]) (by kernel_rfl) (by simp) ?_
                          refine AllReadyH.cons rfl (fun K hK => ?_) ?_
                          · refine Kd.N_append_rows_step k42 (w0 := wd) wd.heap.size (by first | rfl | simp [Region.wanted]) (.tmp 60) (.tmp 61) 34 42 (.agg #[(.bool false), (.string ⟨#[]⟩), (.slice none 0 0), (.int .i64 0)]) 56 rfl Tryz.underlying34 info42 rfl (by decide) (by omega) v60 [] l0 A0 l0.length c0 (fun _ => True) (fun k => k < w.heap.size) rfl rfl HA12.out (Kd.F_below HFW.out hcy12.out) ?hp13 (fun _ _ => trivial) hcy12.out (hcy12.out).size ?hl13 ?_
                            case hp13 => exact fun k hk => ⟨trivial, fun e => absurd (Kd.N_base HA12.out k e.symm) (by omega)⟩
                            case hl13 => first | omega | (simp; omega)
                            intro v62 y13 hn hb hg_ hat_
                            rw [List.nil_append] at hn
                            have hcy13 := Lib.hid hb
                            have HA13 := Lib.hid hn
                            have HM13 := Lib.hid (Kd.F_grown HM12.out hg_ HMD12.out)
                            have HMD13 := Lib.hid (apart_app HMD12.out HMZ12.out hat_)
                            have HMZ13 := Lib.hid (fun k hk => Nat.lt_of_lt_of_le (HMZ12.out k hk) hg_.size)
                            have HR13 := Lib.hid (Kd.F_grown HR12.out hg_ HRD12.out)
                            have HRD13 := Lib.hid (apart_app HRD12.out HRZ12.out hat_)
                            have HRZ13 := Lib.hid (fun k hk => Nat.lt_of_lt_of_le (HRZ12.out k hk) hg_.size)
                            clear hn hb hg_ hat_
                            refine hK.out _ _ ?_ (fun hHeld => ?_)
                            · exact HK13.out _ hcy13.out
                            · clear hK K
                              try simp only [Act.put, List.getElem_toArray, List.getElem_cons_succ, List.getElem_cons_zero, List.setIfInBounds_toArray, List.set_cons_zero, List.set_cons_succ]
                              refine wpAnyH_ready (rs := [9]) (by kernel_rfl) (by simp) ?_
                              refine AllReadyH.cons rfl (fun K hK => ?_) ?_
                              · refine Kd.N_append_rows_step k42 (w0 := wd) wd.heap.size (by first | rfl | simp [Region.wanted]) (.tmp 62) (.tmp 65) 34 42 (.agg #[(.bool false), (.string ⟨#[]⟩), (.slice none 0 0), (.int .i64 0)]) 56 rfl Tryz.underlying34 info42 rfl (by decide) (by omega) v62 l0 [(⟨false, g1, g2, g3⟩ : S42), (⟨true, g1, g2, g3⟩ : S42)] A65 _ c65 (fun _ => True) _ rfl rfl HA13.out HM13.out ?hp14 (fun _ _ => trivial) hcy13.out (hcy13.out).size ?hl14 ?_
                                case hp14 => exact fun k hk => ⟨trivial, HMD13.out k hk⟩
                                case hl14 => first | omega | (simp; omega)
                                intro v66 y14 hn hb hg_ hat_
                                have hcy14 := Lib.hid hb
                                have HA14 := Lib.hid hn
                                have HM14 := Lib.hid (Kd.F_grown HM13.out hg_ HMD13.out)
                                have HMD14 := Lib.hid (apart_app HMD13.out HMZ13.out hat_)
                                have HMZ14 := Lib.hid (fun k hk => Nat.lt_of_lt_of_le (HMZ13.out k hk) hg_.size)
                                have HR14 := Lib.hid (Kd.F_grown HR13.out hg_ HRD13.out)
                                have HRD14 := Lib.hid (apart_app HRD13.out HRZ13.out hat_)
                                have HRZ14 := Lib.hid (fun k hk => Nat.lt_of_lt_of_le (HRZ13.out k hk) hg_.size)
                                clear hn hb hg_ hat_
                                refine hK.out _ _ ?_ (fun hHeld => ?_)
                                · exact HK13.out _ hcy14.out
                                · clear hK K
                                  try simp only [Act.put, List.getElem_toArray, List.getElem_cons_succ, List.getElem_cons_zero, List.setIfInBounds_toArray, List.set_cons_zero, List.set_cons_succ]
                                  refine wpAnyH_ready (rs := [11]) (by kernel_rfl) (by simp) ?_
                                  refine AllReadyH.cons rfl (fun K hK => ?_) ?_
                                  · obtain ⟨A66, c66, e66⟩ := Kd.N_slice HA14.out
                                    subst e66
                                    try go_simp
                                    go_at_call 26
                                    have hcall := laws_of.calls k41 A66 c66 (l0 ++ [(⟨false, g1, g2, g3⟩ : S42), (⟨true, g1, g2, g3⟩ : S42)]) A2 c2 l2 r _ (Kd.N_reads' HA14.out).2.2 (Kd.N_reads' HA14.out).2.1 (Kd.C_below H2.out (below_step HBD.out hcy14.out)) hc2 (Pi.Laid.below HL.out (below_step HBD.out hcy14.out)) E41.out
                                    rw [show (l0 ++ [(⟨false, g1, g2, g3⟩ : S42), (⟨true, g1, g2, g3⟩ : S42)]).length = l0.length + 2 by simp] at hcall
                                    refine hcall.mono ?_
                                    rintro e y15 ⟨v68, rfl, hv, hbc⟩
                                    obtain ⟨A68, c68, e68⟩ := Kd.S_slice hv
                                    subst e68
                                    have hcy15 := Lib.hid (below_step (hcy14.out) hbc)
                                    have HV15 := Lib.hid hv
                                    have HR15 := Lib.hid (Kd.F_below HR14.out hbc)
                                    have HRZ15 := Lib.hid (fun k hk => Nat.lt_of_lt_of_le (HRZ14.out k hk) hbc.size)
                                    clear hv hbc hcall
                                    refine hK.out _ _ ?_ (fun hHeld => ?_)
                                    · exact HK13.out _ hcy15.out
                                    · clear hK K
                                      try simp only [Act.put, List.getElem_toArray, List.getElem_cons_succ, List.getElem_cons_zero, List.setIfInBounds_toArray, List.set_cons_zero, List.set_cons_succ]
                                      refine wpAnyH_take (i := 12) (v := ?_) rfl (by kernel_rfl) (by kernel_rfl) (by kernel_rfl) (fun _ _ _ h => h) (Or.inl ⟨by rfl, ?_⟩) (by assumption) ?_
                                      rotate_left
                                      · intro w hSw
                                        try dsimp only at hSw
                                        go_simp
                                        try with_reducible rfl
                                      simp only [Act.put, List.getElem_toArray, List.getElem_cons_succ, List.getElem_cons_zero, List.setIfInBounds_toArray, List.set_cons_zero, List.set_cons_succ]
                                      refine wpAnyH_take (i := 13) (v := ?_) rfl (by kernel_rfl) (by kernel_rfl) (by kernel_rfl) (fun _ _ _ h => h) (Or.inl ⟨by rfl, ?_⟩) (by assumption) ?_
                                      rotate_left
                                      · intro w hSw
                                        try dsimp only at hSw
                                        go_simp
                                        try with_reducible rfl
                                      simp only [Act.put, List.getElem_toArray, List.getElem_cons_succ, List.getElem_cons_zero, List.setIfInBounds_toArray, List.set_cons_zero, List.set_cons_succ]
                                      refine wpAnyH_done (by kernel_rfl) ?_ _
                                      go_wp2_with fail
                                      go_meet
                                      case rel => exact ⟨A59, c59, A68, c68, rfl, rfl, Kd.F_now HR15.out, HRC.out, (Kd.S_reads' HV15.out).2.2, (Kd.S_reads' HV15.out).2.1, hcy15.out⟩
                                  exact AllReadyH.nil
                              exact AllReadyH.nil
                          exact AllReadyH.nil
                      exact AllReadyH.nil
                  exact AllReadyH.nil
              refine AllReadyH.cons rfl (fun K hK => ?_) ?_
              · refine Kd.N_lit_step k42 (w0 := wd) wd.heap.size 42 (by first | rfl | simp [Region.wanted]) (N' := 60) rfl (xs := ([] : List S42)) (inner := []) (ok := fun _ => True) (okp := fun _ => True) ?hr16 (Reps.none _ _) (fun _ hk => hk) trivial (below_drew (Below.refl wd.heap.size wd)) ((below_drew (Below.refl wd.heap.size wd))).size (by simp) ?_
                case hr16 => first | (go_simp; done) | (go_simp; rfl)
                intro v60 y16 hn hb hg_ hat_
                have hcy16 := Lib.hid hb
                have HA16 := Lib.hid hn
                clear hn hb hg_ hat_
                refine hK.out _ _ ?_ (fun hHeld => ?_)
                · exact HK13.out _ hcy16.out
                · clear hK K
                  try simp only [Act.put, List.getElem_toArray, List.getElem_cons_succ, List.getElem_cons_zero, List.setIfInBounds_toArray, List.set_cons_zero, List.set_cons_succ]
                  refine wpAnyH_ready (rs := [2, 8]) (by kernel_rfl) (by simp) ?_
                  refine AllReadyH.cons rfl (fun K hK => ?_) ?_
                  · try go_simp
                    go_at_call 26
                    refine (laws_of.calls k40 A0 c0 l0 A2 c2 l2 r _ (Kd.C_below H0.out (below_step HBD.out hcy16.out)) hc0 (Kd.C_below H2.out (below_step HBD.out hcy16.out)) hc2 (Pi.Laid.below HL.out (below_step HBD.out hcy16.out)) E40.out).mono ?_
                    rintro e y17 ⟨v59, rfl, hv, hbc⟩
                    obtain ⟨A59, c59, e59⟩ := Kd.S_slice hv
                    subst e59
                    have hcy17 := Lib.hid (below_step (hcy16.out) hbc)
                    have HR17 := Lib.hid (Kd.F_mono (Kd.S_F (Kd.S_bound hv)) (ok' := fun k => (y16).heap.size ≤ k ∧ k < y17.heap.size) (fun k hk => ⟨hk.2.1, hk.2.2.1⟩))
                    have HRC := Lib.hid (Kd.S_reads' hv).2.1
                    have HRZ17 := Lib.hid (show ∀ k, (y16).heap.size ≤ k ∧ k < y17.heap.size → k < y17.heap.size from fun k hk => hk.2)
                    have HRD17 := Lib.hid (show ∀ k, (y16).heap.size ≤ k ∧ k < y17.heap.size → some k ≠ (v60).ownBlock from fun k hk e => by have := Kd.N_lt HA16.out k e.symm; have := hk.1; omega)
                    have HA17 := Lib.hid (Kd.N_below HA16.out hbc)
                    clear hv hbc
                    refine hK.out _ _ ?_ (fun hHeld => ?_)
                    · exact HK13.out _ hcy17.out
                    · clear hK K
                      try simp only [Act.put, List.getElem_toArray, List.getElem_cons_succ, List.getElem_cons_zero, List.setIfInBounds_toArray, List.set_cons_zero, List.set_cons_succ]
                      refine wpAnyH_ready (rs := [5, 8]) (by kernel_rfl) (by simp) ?_
                      refine AllReadyH.cons rfl (fun K hK => ?_) ?_
                      · refine Kd.N_append_rows_step k42 (w0 := wd) wd.heap.size (by first | rfl | simp [Region.wanted]) (.tmp 60) (.tmp 61) 34 42 (.agg #[(.bool false), (.string ⟨#[]⟩), (.slice none 0 0), (.int .i64 0)]) 56 rfl Tryz.underlying34 info42 rfl (by decide) (by omega) v60 [] l0 A0 l0.length c0 (fun _ => True) (fun k => k < w.heap.size) rfl rfl HA17.out (Kd.F_below HFW.out hcy17.out) ?hp18 (fun _ _ => trivial) hcy17.out (hcy17.out).size ?hl18 ?_
                        case hp18 => exact fun k hk => ⟨trivial, fun e => absurd (Kd.N_base HA17.out k e.symm) (by omega)⟩
                        case hl18 => first | omega | (simp; omega)
                        intro v62 y18 hn hb hg_ hat_
                        rw [List.nil_append] at hn
                        have hcy18 := Lib.hid hb
                        have HA18 := Lib.hid hn
                        have HR18 := Lib.hid (Kd.F_grown HR17.out hg_ HRD17.out)
                        have HRD18 := Lib.hid (apart_app HRD17.out HRZ17.out hat_)
                        have HRZ18 := Lib.hid (fun k hk => Nat.lt_of_lt_of_le (HRZ17.out k hk) hg_.size)
                        clear hn hb hg_ hat_
                        refine hK.out _ _ ?_ (fun hHeld => ?_)
                        · exact HK13.out _ hcy18.out
                        · clear hK K
                          try simp only [Act.put, List.getElem_toArray, List.getElem_cons_succ, List.getElem_cons_zero, List.setIfInBounds_toArray, List.set_cons_zero, List.set_cons_succ]
                          refine wpAnyH_ready (rs := [8]) (by kernel_rfl) (by simp) ?_
                          refine AllReadyH.cons rfl (fun K hK => ?_) ?_
                          · refine Kd.N_lit_step k42 (w0 := wd) wd.heap.size 42 (by first | rfl | simp [Region.wanted]) (N' := 65) rfl (xs := [(⟨false, g1, g2, g3⟩ : S42), (⟨true, g1, g2, g3⟩ : S42)]) (inner := [.bool false, .string g1, .slice A1 g2.length c1, .int .i64 g3, .bool true, .string g1, .slice A1 g2.length c1, .int .i64 g3]) (ok := fun k => k < wd.heap.size ∨ (y18).heap.size ≤ k) (okp := fun k => k < wd.heap.size) ?hr19 (Reps.front (c := [.bool false, .string g1, .slice A1 g2.length c1, .int .i64 g3]) (k42_mkF _ _ (⟨false, g1, g2, g3⟩ : S42) hc1 (Kd.F_mono (Kd.F_below HFMW.out (hcy18.out)) (fun k hk => Nat.lt_of_lt_of_le hk hle))) rfl (Reps.front (c := [.bool true, .string g1, .slice A1 g2.length c1, .int .i64 g3]) (k42_mkF _ _ (⟨true, g1, g2, g3⟩ : S42) hc1 (Kd.F_mono (Kd.F_below HFMW.out (hcy18.out)) (fun k hk => Nat.lt_of_lt_of_le hk hle))) rfl (Reps.none _ _) rfl) rfl) (fun _ hk => .inl hk) (.inr (Nat.le_refl _)) hcy18.out (hcy18.out).size (by simp) ?_
                            case hr19 => first | (go_simp; done) | (go_simp; rfl)
                            intro v65 y19 hn hb hg_ hat_
                            have hcy19 := Lib.hid hb
                            obtain ⟨A65, c65, e65⟩ := Kd.N_slice hn
                            subst e65
                            have HM19 := Lib.hid (newOk_F (W := y18) hn)
                            have HMZ19 := Lib.hid (newOk_lt (base := wd.heap.size) (W := y18) (W1 := y19) (Nat.le_refl y19.heap.size))
                            have HMD19 := Lib.hid (newOk_apart (d := 0) (W1 := y19) HA18.out)
                            have HA19 := Lib.hid (Kd.N_grown HA18.out hg_ (fun _ _ => by simp))
                            have HR19 := Lib.hid (Kd.F_grown HR18.out hg_ (fun _ _ => by simp))
                            have HRZ19 := Lib.hid (fun k hk => Nat.lt_of_lt_of_le (HRZ18.out k hk) hg_.size)
                            clear hn hb hg_ hat_
                            refine hK.out _ _ ?_ (fun hHeld => ?_)
                            · exact HK13.out _ hcy19.out
                            · clear hK K
                              try simp only [Act.put, List.getElem_toArray, List.getElem_cons_succ, List.getElem_cons_zero, List.setIfInBounds_toArray, List.set_cons_zero, List.set_cons_succ]
                              refine wpAnyH_ready (rs := [9]) (by kernel_rfl) (by simp) ?_
                              refine AllReadyH.cons rfl (fun K hK => ?_) ?_
                              · refine Kd.N_append_rows_step k42 (w0 := wd) wd.heap.size (by first | rfl | simp [Region.wanted]) (.tmp 62) (.tmp 65) 34 42 (.agg #[(.bool false), (.string ⟨#[]⟩), (.slice none 0 0), (.int .i64 0)]) 56 rfl Tryz.underlying34 info42 rfl (by decide) (by omega) v62 l0 [(⟨false, g1, g2, g3⟩ : S42), (⟨true, g1, g2, g3⟩ : S42)] A65 _ c65 (fun _ => True) _ rfl rfl HA19.out HM19.out ?hp20 (fun _ _ => trivial) hcy19.out (hcy19.out).size ?hl20 ?_
                                case hp20 => exact fun k hk => ⟨trivial, HMD19.out k hk⟩
                                case hl20 => first | omega | (simp; omega)
                                intro v66 y20 hn hb hg_ hat_
                                have hcy20 := Lib.hid hb
                                have HA20 := Lib.hid hn
                                have HM20 := Lib.hid (Kd.F_grown HM19.out hg_ HMD19.out)
                                have HMD20 := Lib.hid (apart_app HMD19.out HMZ19.out hat_)
                                have HMZ20 := Lib.hid (fun k hk => Nat.lt_of_lt_of_le (HMZ19.out k hk) hg_.size)
                                have HR20 := Lib.hid (Kd.F_grown HR19.out hg_ HRD18.out)
                                have HRD20 := Lib.hid (apart_app HRD18.out HRZ19.out hat_)
                                have HRZ20 := Lib.hid (fun k hk => Nat.lt_of_lt_of_le (HRZ19.out k hk) hg_.size)
                                clear hn hb hg_ hat_
                                refine hK.out _ _ ?_ (fun hHeld => ?_)
                                · exact HK13.out _ hcy20.out
                                · clear hK K
                                  try simp only [Act.put, List.getElem_toArray, List.getElem_cons_succ, List.getElem_cons_zero, List.setIfInBounds_toArray, List.set_cons_zero, List.set_cons_succ]
                                  refine wpAnyH_ready (rs := [11]) (by kernel_rfl) (by simp) ?_
                                  refine AllReadyH.cons rfl (fun K hK => ?_) ?_
                                  · obtain ⟨A66, c66, e66⟩ := Kd.N_slice HA20.out
                                    subst e66
                                    try go_simp
                                    go_at_call 26
                                    have hcall := laws_of.calls k41 A66 c66 (l0 ++ [(⟨false, g1, g2, g3⟩ : S42), (⟨true, g1, g2, g3⟩ : S42)]) A2 c2 l2 r _ (Kd.N_reads' HA20.out).2.2 (Kd.N_reads' HA20.out).2.1 (Kd.C_below H2.out (below_step HBD.out hcy20.out)) hc2 (Pi.Laid.below HL.out (below_step HBD.out hcy20.out)) E41.out
                                    rw [show (l0 ++ [(⟨false, g1, g2, g3⟩ : S42), (⟨true, g1, g2, g3⟩ : S42)]).length = l0.length + 2 by simp] at hcall
                                    refine hcall.mono ?_
                                    rintro e y21 ⟨v68, rfl, hv, hbc⟩
                                    obtain ⟨A68, c68, e68⟩ := Kd.S_slice hv
                                    subst e68
                                    have hcy21 := Lib.hid (below_step (hcy20.out) hbc)
                                    have HV21 := Lib.hid hv
                                    have HR21 := Lib.hid (Kd.F_below HR20.out hbc)
                                    have HRZ21 := Lib.hid (fun k hk => Nat.lt_of_lt_of_le (HRZ20.out k hk) hbc.size)
                                    clear hv hbc hcall
                                    refine hK.out _ _ ?_ (fun hHeld => ?_)
                                    · exact HK13.out _ hcy21.out
                                    · clear hK K
                                      try simp only [Act.put, List.getElem_toArray, List.getElem_cons_succ, List.getElem_cons_zero, List.setIfInBounds_toArray, List.set_cons_zero, List.set_cons_succ]
                                      refine wpAnyH_take (i := 12) (v := ?_) rfl (by kernel_rfl) (by kernel_rfl) (by kernel_rfl) (fun _ _ _ h => h) (Or.inl ⟨by rfl, ?_⟩) (by assumption) ?_
                                      rotate_left
                                      · intro w hSw
                                        try dsimp only at hSw
                                        go_simp
                                        try with_reducible rfl
                                      simp only [Act.put, List.getElem_toArray, List.getElem_cons_succ, List.getElem_cons_zero, List.setIfInBounds_toArray, List.set_cons_zero, List.set_cons_succ]
                                      refine wpAnyH_take (i := 13) (v := ?_) rfl (by kernel_rfl) (by kernel_rfl) (by kernel_rfl) (fun _ _ _ h => h) (Or.inl ⟨by rfl, ?_⟩) (by assumption) ?_
                                      rotate_left
                                      · intro w hSw
                                        try dsimp only at hSw
                                        go_simp
                                        try with_reducible rfl
                                      simp only [Act.put, List.getElem_toArray, List.getElem_cons_succ, List.getElem_cons_zero, List.setIfInBounds_toArray, List.set_cons_zero, List.set_cons_succ]
                                      refine wpAnyH_done (by kernel_rfl) ?_ _
                                      go_wp2_with fail
                                      go_meet
                                      case rel => exact ⟨A59, c59, A68, c68, rfl, rfl, Kd.F_now HR21.out, HRC.out, (Kd.S_reads' HV21.out).2.2, (Kd.S_reads' HV21.out).2.1, hcy21.out⟩
                                  exact AllReadyH.nil
                              exact AllReadyH.nil
                          exact AllReadyH.nil
                      refine AllReadyH.cons rfl (fun K hK => ?_) ?_
                      · refine Kd.N_lit_step k42 (w0 := wd) wd.heap.size 42 (by first | rfl | simp [Region.wanted]) (N' := 65) rfl (xs := [(⟨false, g1, g2, g3⟩ : S42), (⟨true, g1, g2, g3⟩ : S42)]) (inner := [.bool false, .string g1, .slice A1 g2.length c1, .int .i64 g3, .bool true, .string g1, .slice A1 g2.length c1, .int .i64 g3]) (ok := fun k => k < wd.heap.size ∨ (y17).heap.size ≤ k) (okp := fun k => k < wd.heap.size) ?hr22 (Reps.front (c := [.bool false, .string g1, .slice A1 g2.length c1, .int .i64 g3]) (k42_mkF _ _ (⟨false, g1, g2, g3⟩ : S42) hc1 (Kd.F_mono (Kd.F_below HFMW.out (hcy17.out)) (fun k hk => Nat.lt_of_lt_of_le hk hle))) rfl (Reps.front (c := [.bool true, .string g1, .slice A1 g2.length c1, .int .i64 g3]) (k42_mkF _ _ (⟨true, g1, g2, g3⟩ : S42) hc1 (Kd.F_mono (Kd.F_below HFMW.out (hcy17.out)) (fun k hk => Nat.lt_of_lt_of_le hk hle))) rfl (Reps.none _ _) rfl) rfl) (fun _ hk => .inl hk) (.inr (Nat.le_refl _)) hcy17.out (hcy17.out).size (by simp) ?_
                        case hr22 => first | (go_simp; done) | (go_simp; rfl)
                        intro v65 y22 hn hb hg_ hat_
                        have hcy22 := Lib.hid hb
                        obtain ⟨A65, c65, e65⟩ := Kd.N_slice hn
                        subst e65
                        have HM22 := Lib.hid (newOk_F (W := y17) hn)
                        have HMZ22 := Lib.hid (newOk_lt (base := wd.heap.size) (W := y17) (W1 := y22) (Nat.le_refl y22.heap.size))
                        have HMD22 := Lib.hid (newOk_apart (d := 0) (W1 := y22) HA17.out)
                        have HA22 := Lib.hid (Kd.N_grown HA17.out hg_ (fun _ _ => by simp))
                        have HR22 := Lib.hid (Kd.F_grown HR17.out hg_ (fun _ _ => by simp))
                        have HRZ22 := Lib.hid (fun k hk => Nat.lt_of_lt_of_le (HRZ17.out k hk) hg_.size)
                        clear hn hb hg_ hat_
                        refine hK.out _ _ ?_ (fun hHeld => ?_)
                        · exact HK13.out _ hcy22.out
                        · clear hK K
                          try simp only [Act.put, List.getElem_toArray, List.getElem_cons_succ, List.getElem_cons_zero, List.setIfInBounds_toArray, List.set_cons_zero, List.set_cons_succ]
                          refine wpAnyH_ready (rs := [5]) (by kernel_rfl) (by simp) ?_
                          refine AllReadyH.cons rfl (fun K hK => ?_) ?_
                          · refine Kd.N_append_rows_step k42 (w0 := wd) wd.heap.size (by first | rfl | simp [Region.wanted]) (.tmp 60) (.tmp 61) 34 42 (.agg #[(.bool false), (.string ⟨#[]⟩), (.slice none 0 0), (.int .i64 0)]) 56 rfl Tryz.underlying34 info42 rfl (by decide) (by omega) v60 [] l0 A0 l0.length c0 (fun _ => True) (fun k => k < w.heap.size) rfl rfl HA22.out (Kd.F_below HFW.out hcy22.out) ?hp23 (fun _ _ => trivial) hcy22.out (hcy22.out).size ?hl23 ?_
                            case hp23 => exact fun k hk => ⟨trivial, fun e => absurd (Kd.N_base HA22.out k e.symm) (by omega)⟩
                            case hl23 => first | omega | (simp; omega)
                            intro v62 y23 hn hb hg_ hat_
                            rw [List.nil_append] at hn
                            have hcy23 := Lib.hid hb
                            have HA23 := Lib.hid hn
                            have HM23 := Lib.hid (Kd.F_grown HM22.out hg_ HMD22.out)
                            have HMD23 := Lib.hid (apart_app HMD22.out HMZ22.out hat_)
                            have HMZ23 := Lib.hid (fun k hk => Nat.lt_of_lt_of_le (HMZ22.out k hk) hg_.size)
                            have HR23 := Lib.hid (Kd.F_grown HR22.out hg_ HRD17.out)
                            have HRD23 := Lib.hid (apart_app HRD17.out HRZ22.out hat_)
                            have HRZ23 := Lib.hid (fun k hk => Nat.lt_of_lt_of_le (HRZ22.out k hk) hg_.size)
                            clear hn hb hg_ hat_
                            refine hK.out _ _ ?_ (fun hHeld => ?_)
                            · exact HK13.out _ hcy23.out
                            · clear hK K
                              try simp only [Act.put, List.getElem_toArray, List.getElem_cons_succ, List.getElem_cons_zero, List.setIfInBounds_toArray, List.set_cons_zero, List.set_cons_succ]
                              refine wpAnyH_ready (rs := [9]) (by kernel_rfl) (by simp) ?_
                              refine AllReadyH.cons rfl (fun K hK => ?_) ?_
                              · refine Kd.N_append_rows_step k42 (w0 := wd) wd.heap.size (by first | rfl | simp [Region.wanted]) (.tmp 62) (.tmp 65) 34 42 (.agg #[(.bool false), (.string ⟨#[]⟩), (.slice none 0 0), (.int .i64 0)]) 56 rfl Tryz.underlying34 info42 rfl (by decide) (by omega) v62 l0 [(⟨false, g1, g2, g3⟩ : S42), (⟨true, g1, g2, g3⟩ : S42)] A65 _ c65 (fun _ => True) _ rfl rfl HA23.out HM23.out ?hp24 (fun _ _ => trivial) hcy23.out (hcy23.out).size ?hl24 ?_
                                case hp24 => exact fun k hk => ⟨trivial, HMD23.out k hk⟩
                                case hl24 => first | omega | (simp; omega)
                                intro v66 y24 hn hb hg_ hat_
                                have hcy24 := Lib.hid hb
                                have HA24 := Lib.hid hn
                                have HM24 := Lib.hid (Kd.F_grown HM23.out hg_ HMD23.out)
                                have HMD24 := Lib.hid (apart_app HMD23.out HMZ23.out hat_)
                                have HMZ24 := Lib.hid (fun k hk => Nat.lt_of_lt_of_le (HMZ23.out k hk) hg_.size)
                                have HR24 := Lib.hid (Kd.F_grown HR23.out hg_ HRD23.out)
                                have HRD24 := Lib.hid (apart_app HRD23.out HRZ23.out hat_)
                                have HRZ24 := Lib.hid (fun k hk => Nat.lt_of_lt_of_le (HRZ23.out k hk) hg_.size)
                                clear hn hb hg_ hat_
                                refine hK.out _ _ ?_ (fun hHeld => ?_)
                                · exact HK13.out _ hcy24.out
                                · clear hK K
                                  try simp only [Act.put, List.getElem_toArray, List.getElem_cons_succ, List.getElem_cons_zero, List.setIfInBounds_toArray, List.set_cons_zero, List.set_cons_succ]
                                  refine wpAnyH_ready (rs := [11]) (by kernel_rfl) (by simp) ?_
                                  refine AllReadyH.cons rfl (fun K hK => ?_) ?_
                                  · obtain ⟨A66, c66, e66⟩ := Kd.N_slice HA24.out
                                    subst e66
                                    try go_simp
                                    go_at_call 26
                                    have hcall := laws_of.calls k41 A66 c66 (l0 ++ [(⟨false, g1, g2, g3⟩ : S42), (⟨true, g1, g2, g3⟩ : S42)]) A2 c2 l2 r _ (Kd.N_reads' HA24.out).2.2 (Kd.N_reads' HA24.out).2.1 (Kd.C_below H2.out (below_step HBD.out hcy24.out)) hc2 (Pi.Laid.below HL.out (below_step HBD.out hcy24.out)) E41.out
                                    rw [show (l0 ++ [(⟨false, g1, g2, g3⟩ : S42), (⟨true, g1, g2, g3⟩ : S42)]).length = l0.length + 2 by simp] at hcall
                                    refine hcall.mono ?_
                                    rintro e y25 ⟨v68, rfl, hv, hbc⟩
                                    obtain ⟨A68, c68, e68⟩ := Kd.S_slice hv
                                    subst e68
                                    have hcy25 := Lib.hid (below_step (hcy24.out) hbc)
                                    have HV25 := Lib.hid hv
                                    have HR25 := Lib.hid (Kd.F_below HR24.out hbc)
                                    have HRZ25 := Lib.hid (fun k hk => Nat.lt_of_lt_of_le (HRZ24.out k hk) hbc.size)
                                    clear hv hbc hcall
                                    refine hK.out _ _ ?_ (fun hHeld => ?_)
                                    · exact HK13.out _ hcy25.out
                                    · clear hK K
                                      try simp only [Act.put, List.getElem_toArray, List.getElem_cons_succ, List.getElem_cons_zero, List.setIfInBounds_toArray, List.set_cons_zero, List.set_cons_succ]
                                      refine wpAnyH_take (i := 12) (v := ?_) rfl (by kernel_rfl) (by kernel_rfl) (by kernel_rfl) (fun _ _ _ h => h) (Or.inl ⟨by rfl, ?_⟩) (by assumption) ?_
                                      rotate_left
                                      · intro w hSw
                                        try dsimp only at hSw
                                        go_simp
                                        try with_reducible rfl
                                      simp only [Act.put, List.getElem_toArray, List.getElem_cons_succ, List.getElem_cons_zero, List.setIfInBounds_toArray, List.set_cons_zero, List.set_cons_succ]
                                      refine wpAnyH_take (i := 13) (v := ?_) rfl (by kernel_rfl) (by kernel_rfl) (by kernel_rfl) (fun _ _ _ h => h) (Or.inl ⟨by rfl, ?_⟩) (by assumption) ?_
                                      rotate_left
                                      · intro w hSw
                                        try dsimp only at hSw
                                        go_simp
                                        try with_reducible rfl
                                      simp only [Act.put, List.getElem_toArray, List.getElem_cons_succ, List.getElem_cons_zero, List.setIfInBounds_toArray, List.set_cons_zero, List.set_cons_succ]
                                      refine wpAnyH_done (by kernel_rfl) ?_ _
                                      go_wp2_with fail
                                      go_meet
                                      case rel => exact ⟨A59, c59, A68, c68, rfl, rfl, Kd.F_now HR25.out, HRC.out, (Kd.S_reads' HV25.out).2.2, (Kd.S_reads' HV25.out).2.1, hcy25.out⟩
                                  exact AllReadyH.nil
                              exact AllReadyH.nil
                          exact AllReadyH.nil
                      exact AllReadyH.nil
                  refine AllReadyH.cons rfl (fun K hK => ?_) ?_
                  · refine Kd.N_lit_step k42 (w0 := wd) wd.heap.size 42 (by first | rfl | simp [Region.wanted]) (N' := 65) rfl (xs := [(⟨false, g1, g2, g3⟩ : S42), (⟨true, g1, g2, g3⟩ : S42)]) (inner := [.bool false, .string g1, .slice A1 g2.length c1, .int .i64 g3, .bool true, .string g1, .slice A1 g2.length c1, .int .i64 g3]) (ok := fun k => k < wd.heap.size ∨ (y16).heap.size ≤ k) (okp := fun k => k < wd.heap.size) ?hr26 (Reps.front (c := [.bool false, .string g1, .slice A1 g2.length c1, .int .i64 g3]) (k42_mkF _ _ (⟨false, g1, g2, g3⟩ : S42) hc1 (Kd.F_mono (Kd.F_below HFMW.out (hcy16.out)) (fun k hk => Nat.lt_of_lt_of_le hk hle))) rfl (Reps.front (c := [.bool true, .string g1, .slice A1 g2.length c1, .int .i64 g3]) (k42_mkF _ _ (⟨true, g1, g2, g3⟩ : S42) hc1 (Kd.F_mono (Kd.F_below HFMW.out (hcy16.out)) (fun k hk => Nat.lt_of_lt_of_le hk hle))) rfl (Reps.none _ _) rfl) rfl) (fun _ hk => .inl hk) (.inr (Nat.le_refl _)) hcy16.out (hcy16.out).size (by simp) ?_
                    case hr26 => first | (go_simp; done) | (go_simp; rfl)
                    intro v65 y26 hn hb hg_ hat_
                    have hcy26 := Lib.hid hb
                    obtain ⟨A65, c65, e65⟩ := Kd.N_slice hn
                    subst e65
                    have HM26 := Lib.hid (newOk_F (W := y16) hn)
                    have HMZ26 := Lib.hid (newOk_lt (base := wd.heap.size) (W := y16) (W1 := y26) (Nat.le_refl y26.heap.size))
                    have HMD26 := Lib.hid (newOk_apart (d := 0) (W1 := y26) HA16.out)
                    have HA26 := Lib.hid (Kd.N_grown HA16.out hg_ (fun _ _ => by simp))
                    clear hn hb hg_ hat_
                    refine hK.out _ _ ?_ (fun hHeld => ?_)
                    · exact HK13.out _ hcy26.out
                    · clear hK K
                      try simp only [Act.put, List.getElem_toArray, List.getElem_cons_succ, List.getElem_cons_zero, List.setIfInBounds_toArray, List.set_cons_zero, List.set_cons_succ]
                      refine wpAnyH_ready (rs := [2]) (by kernel_rfl) (by simp) ?_
                      refine AllReadyH.cons rfl (fun K hK => ?_) ?_
                      · try go_simp
                        go_at_call 26
                        refine (laws_of.calls k40 A0 c0 l0 A2 c2 l2 r _ (Kd.C_below H0.out (below_step HBD.out hcy26.out)) hc0 (Kd.C_below H2.out (below_step HBD.out hcy26.out)) hc2 (Pi.Laid.below HL.out (below_step HBD.out hcy26.out)) E40.out).mono ?_
                        rintro e y27 ⟨v59, rfl, hv, hbc⟩
                        obtain ⟨A59, c59, e59⟩ := Kd.S_slice hv
                        subst e59
                        have hcy27 := Lib.hid (below_step (hcy26.out) hbc)
                        have HR27 := Lib.hid (Kd.F_mono (Kd.S_F (Kd.S_bound hv)) (ok' := fun k => (y26).heap.size ≤ k ∧ k < y27.heap.size) (fun k hk => ⟨hk.2.1, hk.2.2.1⟩))
                        have HRC := Lib.hid (Kd.S_reads' hv).2.1
                        have HRZ27 := Lib.hid (show ∀ k, (y26).heap.size ≤ k ∧ k < y27.heap.size → k < y27.heap.size from fun k hk => hk.2)
                        have HRD27 := Lib.hid (show ∀ k, (y26).heap.size ≤ k ∧ k < y27.heap.size → some k ≠ (v60).ownBlock from fun k hk e => by have := Kd.N_lt HA26.out k e.symm; have := hk.1; omega)
                        have HA27 := Lib.hid (Kd.N_below HA26.out hbc)
                        have HM27 := Lib.hid (Kd.F_below HM26.out hbc)
                        have HMZ27 := Lib.hid (fun k hk => Nat.lt_of_lt_of_le (HMZ26.out k hk) hbc.size)
                        clear hv hbc
                        refine hK.out _ _ ?_ (fun hHeld => ?_)
                        · exact HK13.out _ hcy27.out
                        · clear hK K
                          try simp only [Act.put, List.getElem_toArray, List.getElem_cons_succ, List.getElem_cons_zero, List.setIfInBounds_toArray, List.set_cons_zero, List.set_cons_succ]
                          refine wpAnyH_ready (rs := [5]) (by kernel_rfl) (by simp) ?_
                          refine AllReadyH.cons rfl (fun K hK => ?_) ?_
                          · refine Kd.N_append_rows_step k42 (w0 := wd) wd.heap.size (by first | rfl | simp [Region.wanted]) (.tmp 60) (.tmp 61) 34 42 (.agg #[(.bool false), (.string ⟨#[]⟩), (.slice none 0 0), (.int .i64 0)]) 56 rfl Tryz.underlying34 info42 rfl (by decide) (by omega) v60 [] l0 A0 l0.length c0 (fun _ => True) (fun k => k < w.heap.size) rfl rfl HA27.out (Kd.F_below HFW.out hcy27.out) ?hp28 (fun _ _ => trivial) hcy27.out (hcy27.out).size ?hl28 ?_
                            case hp28 => exact fun k hk => ⟨trivial, fun e => absurd (Kd.N_base HA27.out k e.symm) (by omega)⟩
                            case hl28 => first | omega | (simp; omega)
                            intro v62 y28 hn hb hg_ hat_
                            rw [List.nil_append] at hn
                            have hcy28 := Lib.hid hb
                            have HA28 := Lib.hid hn
                            have HM28 := Lib.hid (Kd.F_grown HM27.out hg_ HMD26.out)
                            have HMD28 := Lib.hid (apart_app HMD26.out HMZ27.out hat_)
                            have HMZ28 := Lib.hid (fun k hk => Nat.lt_of_lt_of_le (HMZ27.out k hk) hg_.size)
                            have HR28 := Lib.hid (Kd.F_grown HR27.out hg_ HRD27.out)
                            have HRD28 := Lib.hid (apart_app HRD27.out HRZ27.out hat_)
                            have HRZ28 := Lib.hid (fun k hk => Nat.lt_of_lt_of_le (HRZ27.out k hk) hg_.size)
                            clear hn hb hg_ hat_
                            refine hK.out _ _ ?_ (fun hHeld => ?_)
                            · exact HK13.out _ hcy28.out
                            · clear hK K
                              try simp only [Act.put, List.getElem_toArray, List.getElem_cons_succ, List.getElem_cons_zero, List.setIfInBounds_toArray, List.set_cons_zero, List.set_cons_succ]
                              refine wpAnyH_ready (rs := [9]) (by kernel_rfl) (by simp) ?_
                              refine AllReadyH.cons rfl (fun K hK => ?_) ?_
                              · refine Kd.N_append_rows_step k42 (w0 := wd) wd.heap.size (by first | rfl | simp [Region.wanted]) (.tmp 62) (.tmp 65) 34 42 (.agg #[(.bool false), (.string ⟨#[]⟩), (.slice none 0 0), (.int .i64 0)]) 56 rfl Tryz.underlying34 info42 rfl (by decide) (by omega) v62 l0 [(⟨false, g1, g2, g3⟩ : S42), (⟨true, g1, g2, g3⟩ : S42)] A65 _ c65 (fun _ => True) _ rfl rfl HA28.out HM28.out ?hp29 (fun _ _ => trivial) hcy28.out (hcy28.out).size ?hl29 ?_
                                case hp29 => exact fun k hk => ⟨trivial, HMD28.out k hk⟩
                                case hl29 => first | omega | (simp; omega)
                                intro v66 y29 hn hb hg_ hat_
                                have hcy29 := Lib.hid hb
                                have HA29 := Lib.hid hn
                                have HM29 := Lib.hid (Kd.F_grown HM28.out hg_ HMD28.out)
                                have HMD29 := Lib.hid (apart_app HMD28.out HMZ28.out hat_)
                                have HMZ29 := Lib.hid (fun k hk => Nat.lt_of_lt_of_le (HMZ28.out k hk) hg_.size)
                                have HR29 := Lib.hid (Kd.F_grown HR28.out hg_ HRD28.out)
                                have HRD29 := Lib.hid (apart_app HRD28.out HRZ28.out hat_)
                                have HRZ29 := Lib.hid (fun k hk => Nat.lt_of_lt_of_le (HRZ28.out k hk) hg_.size)
                                clear hn hb hg_ hat_
                                refine hK.out _ _ ?_ (fun hHeld => ?_)
                                · exact HK13.out _ hcy29.out
                                · clear hK K
                                  try simp only [Act.put, List.getElem_toArray, List.getElem_cons_succ, List.getElem_cons_zero, List.setIfInBounds_toArray, List.set_cons_zero, List.set_cons_succ]
                                  refine wpAnyH_ready (rs := [11]) (by kernel_rfl) (by simp) ?_
                                  refine AllReadyH.cons rfl (fun K hK => ?_) ?_
                                  · obtain ⟨A66, c66, e66⟩ := Kd.N_slice HA29.out
                                    subst e66
                                    try go_simp
                                    go_at_call 26
                                    have hcall := laws_of.calls k41 A66 c66 (l0 ++ [(⟨false, g1, g2, g3⟩ : S42), (⟨true, g1, g2, g3⟩ : S42)]) A2 c2 l2 r _ (Kd.N_reads' HA29.out).2.2 (Kd.N_reads' HA29.out).2.1 (Kd.C_below H2.out (below_step HBD.out hcy29.out)) hc2 (Pi.Laid.below HL.out (below_step HBD.out hcy29.out)) E41.out
                                    rw [show (l0 ++ [(⟨false, g1, g2, g3⟩ : S42), (⟨true, g1, g2, g3⟩ : S42)]).length = l0.length + 2 by simp] at hcall
                                    refine hcall.mono ?_
                                    rintro e y30 ⟨v68, rfl, hv, hbc⟩
                                    obtain ⟨A68, c68, e68⟩ := Kd.S_slice hv
                                    subst e68
                                    have hcy30 := Lib.hid (below_step (hcy29.out) hbc)
                                    have HV30 := Lib.hid hv
                                    have HR30 := Lib.hid (Kd.F_below HR29.out hbc)
                                    have HRZ30 := Lib.hid (fun k hk => Nat.lt_of_lt_of_le (HRZ29.out k hk) hbc.size)
                                    clear hv hbc hcall
                                    refine hK.out _ _ ?_ (fun hHeld => ?_)
                                    · exact HK13.out _ hcy30.out
                                    · clear hK K
                                      try simp only [Act.put, List.getElem_toArray, List.getElem_cons_succ, List.getElem_cons_zero, List.setIfInBounds_toArray, List.set_cons_zero, List.set_cons_succ]
                                      refine wpAnyH_take (i := 12) (v := ?_) rfl (by kernel_rfl) (by kernel_rfl) (by kernel_rfl) (fun _ _ _ h => h) (Or.inl ⟨by rfl, ?_⟩) (by assumption) ?_
                                      rotate_left
                                      · intro w hSw
                                        try dsimp only at hSw
                                        go_simp
                                        try with_reducible rfl
                                      simp only [Act.put, List.getElem_toArray, List.getElem_cons_succ, List.getElem_cons_zero, List.setIfInBounds_toArray, List.set_cons_zero, List.set_cons_succ]
                                      refine wpAnyH_take (i := 13) (v := ?_) rfl (by kernel_rfl) (by kernel_rfl) (by kernel_rfl) (fun _ _ _ h => h) (Or.inl ⟨by rfl, ?_⟩) (by assumption) ?_
                                      rotate_left
                                      · intro w hSw
                                        try dsimp only at hSw
                                        go_simp
                                        try with_reducible rfl
                                      simp only [Act.put, List.getElem_toArray, List.getElem_cons_succ, List.getElem_cons_zero, List.setIfInBounds_toArray, List.set_cons_zero, List.set_cons_succ]
                                      refine wpAnyH_done (by kernel_rfl) ?_ _
                                      go_wp2_with fail
                                      go_meet
                                      case rel => exact ⟨A59, c59, A68, c68, rfl, rfl, Kd.F_now HR30.out, HRC.out, (Kd.S_reads' HV30.out).2.2, (Kd.S_reads' HV30.out).2.1, hcy30.out⟩
                                  exact AllReadyH.nil
                              exact AllReadyH.nil
                          exact AllReadyH.nil
                      exact AllReadyH.nil
                  exact AllReadyH.nil
              refine AllReadyH.cons rfl (fun K hK => ?_) ?_
              · refine Kd.N_lit_step k42 (w0 := wd) wd.heap.size 42 (by first | rfl | simp [Region.wanted]) (N' := 65) rfl (xs := [(⟨false, g1, g2, g3⟩ : S42), (⟨true, g1, g2, g3⟩ : S42)]) (inner := [.bool false, .string g1, .slice A1 g2.length c1, .int .i64 g3, .bool true, .string g1, .slice A1 g2.length c1, .int .i64 g3]) (ok := fun k => k < wd.heap.size ∨ (wd.drew).heap.size ≤ k) (okp := fun k => k < wd.heap.size) ?hr31 (Reps.front (c := [.bool false, .string g1, .slice A1 g2.length c1, .int .i64 g3]) (k42_mkF _ _ (⟨false, g1, g2, g3⟩ : S42) hc1 (Kd.F_mono (Kd.F_below HFMW.out ((below_drew (Below.refl wd.heap.size wd)))) (fun k hk => Nat.lt_of_lt_of_le hk hle))) rfl (Reps.front (c := [.bool true, .string g1, .slice A1 g2.length c1, .int .i64 g3]) (k42_mkF _ _ (⟨true, g1, g2, g3⟩ : S42) hc1 (Kd.F_mono (Kd.F_below HFMW.out ((below_drew (Below.refl wd.heap.size wd)))) (fun k hk => Nat.lt_of_lt_of_le hk hle))) rfl (Reps.none _ _) rfl) rfl) (fun _ hk => .inl hk) (.inr (Nat.le_refl _)) (below_drew (Below.refl wd.heap.size wd)) ((below_drew (Below.refl wd.heap.size wd))).size (by simp) ?_
                case hr31 => first | (go_simp; done) | (go_simp; rfl)
                intro v65 y31 hn hb hg_ hat_
                have hcy31 := Lib.hid hb
                obtain ⟨A65, c65, e65⟩ := Kd.N_slice hn
                subst e65
                have HM31 := Lib.hid (newOk_F (W := wd.drew) hn)
                have HMZ31 := Lib.hid (newOk_lt (base := wd.heap.size) (W := wd.drew) (W1 := y31) (Nat.le_refl y31.heap.size))
                clear hn hb hg_ hat_
                refine hK.out _ _ ?_ (fun hHeld => ?_)
                · exact HK13.out _ hcy31.out
                · clear hK K
                  try simp only [Act.put, List.getElem_toArray, List.getElem_cons_succ, List.getElem_cons_zero, List.setIfInBounds_toArray, List.set_cons_zero, List.set_cons_succ]
                  refine wpAnyH_ready (rs := [2, 3]) (by kernel_rfl) (by simp) ?_
                  refine AllReadyH.cons rfl (fun K hK => ?_) ?_
                  · try go_simp
                    go_at_call 26
                    refine (laws_of.calls k40 A0 c0 l0 A2 c2 l2 r _ (Kd.C_below H0.out (below_step HBD.out hcy31.out)) hc0 (Kd.C_below H2.out (below_step HBD.out hcy31.out)) hc2 (Pi.Laid.below HL.out (below_step HBD.out hcy31.out)) E40.out).mono ?_
                    rintro e y32 ⟨v59, rfl, hv, hbc⟩
                    obtain ⟨A59, c59, e59⟩ := Kd.S_slice hv
                    subst e59
                    have hcy32 := Lib.hid (below_step (hcy31.out) hbc)
                    have HR32 := Lib.hid (Kd.F_mono (Kd.S_F (Kd.S_bound hv)) (ok' := fun k => (y31).heap.size ≤ k ∧ k < y32.heap.size) (fun k hk => ⟨hk.2.1, hk.2.2.1⟩))
                    have HRC := Lib.hid (Kd.S_reads' hv).2.1
                    have HRZ32 := Lib.hid (show ∀ k, (y31).heap.size ≤ k ∧ k < y32.heap.size → k < y32.heap.size from fun k hk => hk.2)
                    have HM32 := Lib.hid (Kd.F_below HM31.out hbc)
                    have HMZ32 := Lib.hid (fun k hk => Nat.lt_of_lt_of_le (HMZ31.out k hk) hbc.size)
                    clear hv hbc
                    refine hK.out _ _ ?_ (fun hHeld => ?_)
                    · exact HK13.out _ hcy32.out
                    · clear hK K
                      try simp only [Act.put, List.getElem_toArray, List.getElem_cons_succ, List.getElem_cons_zero, List.setIfInBounds_toArray, List.set_cons_zero, List.set_cons_succ]
                      refine wpAnyH_ready (rs := [3]) (by kernel_rfl) (by simp) ?_
                      refine AllReadyH.cons rfl (fun K hK => ?_) ?_
                      · refine Kd.N_lit_step k42 (w0 := wd) wd.heap.size 42 (by first | rfl | simp [Region.wanted]) (N' := 60) rfl (xs := ([] : List S42)) (inner := []) (ok := fun _ => True) (okp := fun _ => True) ?hr33 (Reps.none _ _) (fun _ hk => hk) trivial hcy32.out (hcy32.out).size (by simp) ?_
                        case hr33 => first | (go_simp; done) | (go_simp; rfl)
                        intro v60 y33 hn hb hg_ hat_
                        have hcy33 := Lib.hid hb
                        have HA33 := Lib.hid hn
                        have HM33 := Lib.hid (Kd.F_grown HM32.out hg_ (fun _ _ => by simp))
                        have HMD33 := Lib.hid (apart_lit (W1 := y33) HMZ32.out hat_)
                        have HMZ33 := Lib.hid (fun k hk => Nat.lt_of_lt_of_le (HMZ32.out k hk) hg_.size)
                        have HR33 := Lib.hid (Kd.F_grown HR32.out hg_ (fun _ _ => by simp))
                        have HRD33 := Lib.hid (apart_lit (W1 := y33) HRZ32.out hat_)
                        have HRZ33 := Lib.hid (fun k hk => Nat.lt_of_lt_of_le (HRZ32.out k hk) hg_.size)
                        clear hn hb hg_ hat_
                        refine hK.out _ _ ?_ (fun hHeld => ?_)
                        · exact HK13.out _ hcy33.out
                        · clear hK K
                          try simp only [Act.put, List.getElem_toArray, List.getElem_cons_succ, List.getElem_cons_zero, List.setIfInBounds_toArray, List.set_cons_zero, List.set_cons_succ]
                          refine wpAnyH_ready (rs := [5]) (by kernel_rfl) (by simp) ?_
                          refine AllReadyH.cons rfl (fun K hK => ?_) ?_
                          · refine Kd.N_append_rows_step k42 (w0 := wd) wd.heap.size (by first | rfl | simp [Region.wanted]) (.tmp 60) (.tmp 61) 34 42 (.agg #[(.bool false), (.string ⟨#[]⟩), (.slice none 0 0), (.int .i64 0)]) 56 rfl Tryz.underlying34 info42 rfl (by decide) (by omega) v60 [] l0 A0 l0.length c0 (fun _ => True) (fun k => k < w.heap.size) rfl rfl HA33.out (Kd.F_below HFW.out hcy33.out) ?hp34 (fun _ _ => trivial) hcy33.out (hcy33.out).size ?hl34 ?_
                            case hp34 => exact fun k hk => ⟨trivial, fun e => absurd (Kd.N_base HA33.out k e.symm) (by omega)⟩
                            case hl34 => first | omega | (simp; omega)
                            intro v62 y34 hn hb hg_ hat_
                            rw [List.nil_append] at hn
                            have hcy34 := Lib.hid hb
                            have HA34 := Lib.hid hn
                            have HM34 := Lib.hid (Kd.F_grown HM33.out hg_ HMD33.out)
                            have HMD34 := Lib.hid (apart_app HMD33.out HMZ33.out hat_)
                            have HMZ34 := Lib.hid (fun k hk => Nat.lt_of_lt_of_le (HMZ33.out k hk) hg_.size)
                            have HR34 := Lib.hid (Kd.F_grown HR33.out hg_ HRD33.out)
                            have HRD34 := Lib.hid (apart_app HRD33.out HRZ33.out hat_)
                            have HRZ34 := Lib.hid (fun k hk => Nat.lt_of_lt_of_le (HRZ33.out k hk) hg_.size)
                            clear hn hb hg_ hat_
                            refine hK.out _ _ ?_ (fun hHeld => ?_)
                            · exact HK13.out _ hcy34.out
                            · clear hK K
                              try simp only [Act.put, List.getElem_toArray, List.getElem_cons_succ, List.getElem_cons_zero, List.setIfInBounds_toArray, List.set_cons_zero, List.set_cons_succ]
                              refine wpAnyH_ready (rs := [9]) (by kernel_rfl) (by simp) ?_
                              refine AllReadyH.cons rfl (fun K hK => ?_) ?_
                              · refine Kd.N_append_rows_step k42 (w0 := wd) wd.heap.size (by first | rfl | simp [Region.wanted]) (.tmp 62) (.tmp 65) 34 42 (.agg #[(.bool false), (.string ⟨#[]⟩), (.slice none 0 0), (.int .i64 0)]) 56 rfl Tryz.underlying34 info42 rfl (by decide) (by omega) v62 l0 [(⟨false, g1, g2, g3⟩ : S42), (⟨true, g1, g2, g3⟩ : S42)] A65 _ c65 (fun _ => True) _ rfl rfl HA34.out HM34.out ?hp35 (fun _ _ => trivial) hcy34.out (hcy34.out).size ?hl35 ?_
                                case hp35 => exact fun k hk => ⟨trivial, HMD34.out k hk⟩
                                case hl35 => first | omega | (simp; omega)
                                intro v66 y35 hn hb hg_ hat_
                                have hcy35 := Lib.hid hb
                                have HA35 := Lib.hid hn
                                have HM35 := Lib.hid (Kd.F_grown HM34.out hg_ HMD34.out)
                                have HMD35 := Lib.hid (apart_app HMD34.out HMZ34.out hat_)
                                have HMZ35 := Lib.hid (fun k hk => Nat.lt_of_lt_of_le (HMZ34.out k hk) hg_.size)
                                have HR35 := Lib.hid (Kd.F_grown HR34.out hg_ HRD34.out)
                                have HRD35 := Lib.hid (apart_app HRD34.out HRZ34.out hat_)
                                have HRZ35 := Lib.hid (fun k hk => Nat.lt_of_lt_of_le (HRZ34.out k hk) hg_.size)
                                clear hn hb hg_ hat_
                                refine hK.out _ _ ?_ (fun hHeld => ?_)
                                · exact HK13.out _ hcy35.out
                                · clear hK K
                                  try simp only [Act.put, List.getElem_toArray, List.getElem_cons_succ, List.getElem_cons_zero, List.setIfInBounds_toArray, List.set_cons_zero, List.set_cons_succ]
                                  refine wpAnyH_ready (rs := [11]) (by kernel_rfl) (by simp) ?_
                                  refine AllReadyH.cons rfl (fun K hK => ?_) ?_
                                  · obtain ⟨A66, c66, e66⟩ := Kd.N_slice HA35.out
                                    subst e66
                                    try go_simp
                                    go_at_call 26
                                    have hcall := laws_of.calls k41 A66 c66 (l0 ++ [(⟨false, g1, g2, g3⟩ : S42), (⟨true, g1, g2, g3⟩ : S42)]) A2 c2 l2 r _ (Kd.N_reads' HA35.out).2.2 (Kd.N_reads' HA35.out).2.1 (Kd.C_below H2.out (below_step HBD.out hcy35.out)) hc2 (Pi.Laid.below HL.out (below_step HBD.out hcy35.out)) E41.out
                                    rw [show (l0 ++ [(⟨false, g1, g2, g3⟩ : S42), (⟨true, g1, g2, g3⟩ : S42)]).length = l0.length + 2 by simp] at hcall
                                    refine hcall.mono ?_
                                    rintro e y36 ⟨v68, rfl, hv, hbc⟩
                                    obtain ⟨A68, c68, e68⟩ := Kd.S_slice hv
                                    subst e68
                                    have hcy36 := Lib.hid (below_step (hcy35.out) hbc)
                                    have HV36 := Lib.hid hv
                                    have HR36 := Lib.hid (Kd.F_below HR35.out hbc)
                                    have HRZ36 := Lib.hid (fun k hk => Nat.lt_of_lt_of_le (HRZ35.out k hk) hbc.size)
                                    clear hv hbc hcall
                                    refine hK.out _ _ ?_ (fun hHeld => ?_)
                                    · exact HK13.out _ hcy36.out
                                    · clear hK K
                                      try simp only [Act.put, List.getElem_toArray, List.getElem_cons_succ, List.getElem_cons_zero, List.setIfInBounds_toArray, List.set_cons_zero, List.set_cons_succ]
                                      refine wpAnyH_take (i := 12) (v := ?_) rfl (by kernel_rfl) (by kernel_rfl) (by kernel_rfl) (fun _ _ _ h => h) (Or.inl ⟨by rfl, ?_⟩) (by assumption) ?_
                                      rotate_left
                                      · intro w hSw
                                        try dsimp only at hSw
                                        go_simp
                                        try with_reducible rfl
                                      simp only [Act.put, List.getElem_toArray, List.getElem_cons_succ, List.getElem_cons_zero, List.setIfInBounds_toArray, List.set_cons_zero, List.set_cons_succ]
                                      refine wpAnyH_take (i := 13) (v := ?_) rfl (by kernel_rfl) (by kernel_rfl) (by kernel_rfl) (fun _ _ _ h => h) (Or.inl ⟨by rfl, ?_⟩) (by assumption) ?_
                                      rotate_left
                                      · intro w hSw
                                        try dsimp only at hSw
                                        go_simp
                                        try with_reducible rfl
                                      simp only [Act.put, List.getElem_toArray, List.getElem_cons_succ, List.getElem_cons_zero, List.setIfInBounds_toArray, List.set_cons_zero, List.set_cons_succ]
                                      refine wpAnyH_done (by kernel_rfl) ?_ _
                                      go_wp2_with fail
                                      go_meet
                                      case rel => exact ⟨A59, c59, A68, c68, rfl, rfl, Kd.F_now HR36.out, HRC.out, (Kd.S_reads' HV36.out).2.2, (Kd.S_reads' HV36.out).2.1, hcy36.out⟩
                                  exact AllReadyH.nil
                              exact AllReadyH.nil
                          exact AllReadyH.nil
                      exact AllReadyH.nil
                  refine AllReadyH.cons rfl (fun K hK => ?_) ?_
                  · refine Kd.N_lit_step k42 (w0 := wd) wd.heap.size 42 (by first | rfl | simp [Region.wanted]) (N' := 60) rfl (xs := ([] : List S42)) (inner := []) (ok := fun _ => True) (okp := fun _ => True) ?hr37 (Reps.none _ _) (fun _ hk => hk) trivial hcy31.out (hcy31.out).size (by simp) ?_
                    case hr37 => first | (go_simp; done) | (go_simp; rfl)
                    intro v60 y37 hn hb hg_ hat_
                    have hcy37 := Lib.hid hb
                    have HA37 := Lib.hid hn
                    have HM37 := Lib.hid (Kd.F_grown HM31.out hg_ (fun _ _ => by simp))
                    have HMD37 := Lib.hid (apart_lit (W1 := y37) HMZ31.out hat_)
                    have HMZ37 := Lib.hid (fun k hk => Nat.lt_of_lt_of_le (HMZ31.out k hk) hg_.size)
                    clear hn hb hg_ hat_
                    refine hK.out _ _ ?_ (fun hHeld => ?_)
                    · exact HK13.out _ hcy37.out
                    · clear hK K
                      try simp only [Act.put, List.getElem_toArray, List.getElem_cons_succ, List.getElem_cons_zero, List.setIfInBounds_toArray, List.set_cons_zero, List.set_cons_succ]
                      refine wpAnyH_ready (rs := [2]) (by kernel_rfl) (by simp) ?_
                      refine AllReadyH.cons rfl (fun K hK => ?_) ?_
                      · try go_simp
                        go_at_call 26
                        refine (laws_of.calls k40 A0 c0 l0 A2 c2 l2 r _ (Kd.C_below H0.out (below_step HBD.out hcy37.out)) hc0 (Kd.C_below H2.out (below_step HBD.out hcy37.out)) hc2 (Pi.Laid.below HL.out (below_step HBD.out hcy37.out)) E40.out).mono ?_
                        rintro e y38 ⟨v59, rfl, hv, hbc⟩
                        obtain ⟨A59, c59, e59⟩ := Kd.S_slice hv
                        subst e59
                        have hcy38 := Lib.hid (below_step (hcy37.out) hbc)
                        have HR38 := Lib.hid (Kd.F_mono (Kd.S_F (Kd.S_bound hv)) (ok' := fun k => (y37).heap.size ≤ k ∧ k < y38.heap.size) (fun k hk => ⟨hk.2.1, hk.2.2.1⟩))
                        have HRC := Lib.hid (Kd.S_reads' hv).2.1
                        have HRZ38 := Lib.hid (show ∀ k, (y37).heap.size ≤ k ∧ k < y38.heap.size → k < y38.heap.size from fun k hk => hk.2)
                        have HRD38 := Lib.hid (show ∀ k, (y37).heap.size ≤ k ∧ k < y38.heap.size → some k ≠ (v60).ownBlock from fun k hk e => by have := Kd.N_lt HA37.out k e.symm; have := hk.1; omega)
                        have HA38 := Lib.hid (Kd.N_below HA37.out hbc)
                        have HM38 := Lib.hid (Kd.F_below HM37.out hbc)
                        have HMZ38 := Lib.hid (fun k hk => Nat.lt_of_lt_of_le (HMZ37.out k hk) hbc.size)
                        clear hv hbc
                        refine hK.out _ _ ?_ (fun hHeld => ?_)
                        · exact HK13.out _ hcy38.out
                        · clear hK K
                          try simp only [Act.put, List.getElem_toArray, List.getElem_cons_succ, List.getElem_cons_zero, List.setIfInBounds_toArray, List.set_cons_zero, List.set_cons_succ]
                          refine wpAnyH_ready (rs := [5]) (by kernel_rfl) (by simp) ?_
                          refine AllReadyH.cons rfl (fun K hK => ?_) ?_
                          · refine Kd.N_append_rows_step k42 (w0 := wd) wd.heap.size (by first | rfl | simp [Region.wanted]) (.tmp 60) (.tmp 61) 34 42 (.agg #[(.bool false), (.string ⟨#[]⟩), (.slice none 0 0), (.int .i64 0)]) 56 rfl Tryz.underlying34 info42 rfl (by decide) (by omega) v60 [] l0 A0 l0.length c0 (fun _ => True) (fun k => k < w.heap.size) rfl rfl HA38.out (Kd.F_below HFW.out hcy38.out) ?hp39 (fun _ _ => trivial) hcy38.out (hcy38.out).size ?hl39 ?_
                            case hp39 => exact fun k hk => ⟨trivial, fun e => absurd (Kd.N_base HA38.out k e.symm) (by omega)⟩
                            case hl39 => first | omega | (simp; omega)
                            intro v62 y39 hn hb hg_ hat_
                            rw [List.nil_append] at hn
                            have hcy39 := Lib.hid hb
                            have HA39 := Lib.hid hn
                            have HM39 := Lib.hid (Kd.F_grown HM38.out hg_ HMD37.out)
                            have HMD39 := Lib.hid (apart_app HMD37.out HMZ38.out hat_)
                            have HMZ39 := Lib.hid (fun k hk => Nat.lt_of_lt_of_le (HMZ38.out k hk) hg_.size)
                            have HR39 := Lib.hid (Kd.F_grown HR38.out hg_ HRD38.out)
                            have HRD39 := Lib.hid (apart_app HRD38.out HRZ38.out hat_)
                            have HRZ39 := Lib.hid (fun k hk => Nat.lt_of_lt_of_le (HRZ38.out k hk) hg_.size)
                            clear hn hb hg_ hat_
                            refine hK.out _ _ ?_ (fun hHeld => ?_)
                            · exact HK13.out _ hcy39.out
                            · clear hK K
                              try simp only [Act.put, List.getElem_toArray, List.getElem_cons_succ, List.getElem_cons_zero, List.setIfInBounds_toArray, List.set_cons_zero, List.set_cons_succ]
                              refine wpAnyH_ready (rs := [9]) (by kernel_rfl) (by simp) ?_
                              refine AllReadyH.cons rfl (fun K hK => ?_) ?_
                              · refine Kd.N_append_rows_step k42 (w0 := wd) wd.heap.size (by first | rfl | simp [Region.wanted]) (.tmp 62) (.tmp 65) 34 42 (.agg #[(.bool false), (.string ⟨#[]⟩), (.slice none 0 0), (.int .i64 0)]) 56 rfl Tryz.underlying34 info42 rfl (by decide) (by omega) v62 l0 [(⟨false, g1, g2, g3⟩ : S42), (⟨true, g1, g2, g3⟩ : S42)] A65 _ c65 (fun _ => True) _ rfl rfl HA39.out HM39.out ?hp40 (fun _ _ => trivial) hcy39.out (hcy39.out).size ?hl40 ?_
                                case hp40 => exact fun k hk => ⟨trivial, HMD39.out k hk⟩
                                case hl40 => first | omega | (simp; omega)
                                intro v66 y40 hn hb hg_ hat_
                                have hcy40 := Lib.hid hb
                                have HA40 := Lib.hid hn
                                have HM40 := Lib.hid (Kd.F_grown HM39.out hg_ HMD39.out)
                                have HMD40 := Lib.hid (apart_app HMD39.out HMZ39.out hat_)
                                have HMZ40 := Lib.hid (fun k hk => Nat.lt_of_lt_of_le (HMZ39.out k hk) hg_.size)
                                have HR40 := Lib.hid (Kd.F_grown HR39.out hg_ HRD39.out)
                                have HRD40 := Lib.hid (apart_app HRD39.out HRZ39.out hat_)
                                have HRZ40 := Lib.hid (fun k hk => Nat.lt_of_lt_of_le (HRZ39.out k hk) hg_.size)
                                clear hn hb hg_ hat_
                                refine hK.out _ _ ?_ (fun hHeld => ?_)
                                · exact HK13.out _ hcy40.out
                                · clear hK K
                                  try simp only [Act.put, List.getElem_toArray, List.getElem_cons_succ, List.getElem_cons_zero, List.setIfInBounds_toArray, List.set_cons_zero, List.set_cons_succ]
                                  refine wpAnyH_ready (rs := [11]) (by kernel_rfl) (by simp) ?_
                                  refine AllReadyH.cons rfl (fun K hK => ?_) ?_
                                  · obtain ⟨A66, c66, e66⟩ := Kd.N_slice HA40.out
                                    subst e66
                                    try go_simp
                                    go_at_call 26
                                    have hcall := laws_of.calls k41 A66 c66 (l0 ++ [(⟨false, g1, g2, g3⟩ : S42), (⟨true, g1, g2, g3⟩ : S42)]) A2 c2 l2 r _ (Kd.N_reads' HA40.out).2.2 (Kd.N_reads' HA40.out).2.1 (Kd.C_below H2.out (below_step HBD.out hcy40.out)) hc2 (Pi.Laid.below HL.out (below_step HBD.out hcy40.out)) E41.out
                                    rw [show (l0 ++ [(⟨false, g1, g2, g3⟩ : S42), (⟨true, g1, g2, g3⟩ : S42)]).length = l0.length + 2 by simp] at hcall
                                    refine hcall.mono ?_
                                    rintro e y41 ⟨v68, rfl, hv, hbc⟩
                                    obtain ⟨A68, c68, e68⟩ := Kd.S_slice hv
                                    subst e68
                                    have hcy41 := Lib.hid (below_step (hcy40.out) hbc)
                                    have HV41 := Lib.hid hv
                                    have HR41 := Lib.hid (Kd.F_below HR40.out hbc)
                                    have HRZ41 := Lib.hid (fun k hk => Nat.lt_of_lt_of_le (HRZ40.out k hk) hbc.size)
                                    clear hv hbc hcall
                                    refine hK.out _ _ ?_ (fun hHeld => ?_)
                                    · exact HK13.out _ hcy41.out
                                    · clear hK K
                                      try simp only [Act.put, List.getElem_toArray, List.getElem_cons_succ, List.getElem_cons_zero, List.setIfInBounds_toArray, List.set_cons_zero, List.set_cons_succ]
                                      refine wpAnyH_take (i := 12) (v := ?_) rfl (by kernel_rfl) (by kernel_rfl) (by kernel_rfl) (fun _ _ _ h => h) (Or.inl ⟨by rfl, ?_⟩) (by assumption) ?_
                                      rotate_left
                                      · intro w hSw
                                        try dsimp only at hSw
                                        go_simp
                                        try with_reducible rfl
                                      simp only [Act.put, List.getElem_toArray, List.getElem_cons_succ, List.getElem_cons_zero, List.setIfInBounds_toArray, List.set_cons_zero, List.set_cons_succ]
                                      refine wpAnyH_take (i := 13) (v := ?_) rfl (by kernel_rfl) (by kernel_rfl) (by kernel_rfl) (fun _ _ _ h => h) (Or.inl ⟨by rfl, ?_⟩) (by assumption) ?_
                                      rotate_left
                                      · intro w hSw
                                        try dsimp only at hSw
                                        go_simp
                                        try with_reducible rfl
                                      simp only [Act.put, List.getElem_toArray, List.getElem_cons_succ, List.getElem_cons_zero, List.setIfInBounds_toArray, List.set_cons_zero, List.set_cons_succ]
                                      refine wpAnyH_done (by kernel_rfl) ?_ _
                                      go_wp2_with fail
                                      go_meet
                                      case rel => exact ⟨A59, c59, A68, c68, rfl, rfl, Kd.F_now HR41.out, HRC.out, (Kd.S_reads' HV41.out).2.2, (Kd.S_reads' HV41.out).2.1, hcy41.out⟩
                                  exact AllReadyH.nil
                              exact AllReadyH.nil
                          exact AllReadyH.nil
                      exact AllReadyH.nil
                  exact AllReadyH.nil
              exact AllReadyH.nil
            case rest =>
              obtain ⟨A11, c11, A12, c12, rfl, rfl, hC11, hc11, hC12, hc12, hbc⟩ := hcut
              have HC11 := Lib.hid hC11
              have HC12 := Lib.hid hC12
              have HBE := Lib.hid (below_step HBD.out hbc)
              have hle2 : ((r.length : Int) == (l2.length : Int)) = true := beq_iff_eq.mpr (by have := HRL.out; omega)
              clear hC11 hC12 hbc HBD HB9 HB10 HFW HFMW
              go_wp2_with fail
              refine (laws_sameRows.calls k31 A11 c11 r A12 c12 r true _ HC11.out hc11 HC12.out hc12 E31.out).mono ?_
              rintro e w9 ⟨rfl, hb⟩
              have HB9 := Lib.hid (below_step HBE.out hb.below)
              clear hb
              go_wp2_with fail
              refine (laws_triesWork.calls 0 true _ (Pi.Laid.below HL.out HB9.out) rfl).mono ?_
              rintro e w10 ⟨rfl, hb⟩
              have HB10 := Lib.hid (below_step HB9.out hb)
              clear hb
              go_wp2_with fail
              go_ret
              exact ⟨rfl, HB10.out⟩
end Go.Proofs.YtnoolgbbpekomaaGreatDoor.Wb
