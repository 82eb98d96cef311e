/- spec.Marks walked: it answers what the definition tells. -/
import Derived.Test.YtimakagmhikhfaaSx
import Derived.Test.YtimakagmhikhfaaSm
namespace Go.Proofs.Ytimakagmhikhfaa.Rm
open Go.RowKit Go.Proofs.YtimakagmhikhfaaW.PrintWords Go.Proofs.YtimakagmhikhfaaW.PrintLast Go.Proofs.YtimakagmhikhfaaW.PrintMore Go.Proofs.Ytimakagmhikhfaa.M Go.Proofs.Ytimakagmhikhfaa.Mk Go.Proofs.Ytimakagmhikhfaa.Fr Go.Proofs.Ytimakagmhikhfaa.Hp Go.Proofs.Ytimakagmhikhfaa.Pr Go.Proofs.Ytimakagmhikhfaa.Sw Go.Proofs.Ytimakagmhikhfaa.Sm
set_option linter.unusedVariables false
set_option linter.unusedSimpArgs false
/-- Blocks of S that were there are rows or boxes of other types than ts. -/
def Off (w : World) (S : Nat → Prop) (ts : List Nat) : Prop := ∀ k, S k → k < w.heap.size → ∃ cs t, w.heap[k]? = some (.cells cs t (0, 0)) ∧ t ∉ ts
theorem off_new (w : World) (ts : List Nat) : Off w (fun _ => False) ts := fun k h => h.elim
theorem off_SS (w : World) (B : Nat) : Off w (SS w B) [3, 34, 4, 31] := fun k h _ => by
  obtain ⟨_, cs, t, hc, ht⟩ := h
  exact ⟨cs, t, hc, by rcases ht with rfl | rfl <;> decide⟩
theorem off_mono {w : World} {S : Nat → Prop} {ts us : List Nat} (h : Off w S ts) (hs : ∀ t ∈ us, t ∈ ts) : Off w S us := fun k hk hl => by
  obtain ⟨cs, t, hc, ht⟩ := h k hk hl
  exact ⟨cs, t, hc, fun h => ht (hs t h)⟩
theorem keepR {α : Type} {d : Kd α} {e : Nat} {w w1 : World} {B : Nat} {ok : Nat → Prop} {v : Value} {xs : List α} {S : Nat → Prop} (h : d.R e w B ok v xs) (hk : Kp w w1 S) (ho : Off w S (e :: d.E)) : d.R e w1 B ok v xs :=
  Kd.R_mono (Kd.R_kept (S := S) (Kd.R_mono (Kd.R_bound h) (ok' := fun k => ok k ∧ ¬ S k) (fun k hk2 => ⟨hk2.1, fun hS => by
    obtain ⟨_, _, hl, q, hq, cells, hc⟩ := hk2
    obtain ⟨cs, t, hc2, ht⟩ := ho k hS hl
    rw [hc] at hc2
    injection hc2 with hc2
    injection hc2 with _ hc2
    subst hc2
    exact ht hq⟩)) hk.kept (fun _ h => h.2)) (fun _ h => h.1)
theorem keepS {α : Type} {d : Kd α} {e : Nat} {w w1 : World} {B : Nat} {ok : Nat → Prop} {v : Value} {xs : List α} {S : Nat → Prop} (h : Kd.S d e w B ok v xs) (hk : Kp w w1 S) (ho : Off w S (e :: d.E)) : Kd.S d e w1 B ok v xs :=
  Kd.S_mono (Kd.S_kept (S := S) (Kd.S_mono (Kd.S_bound h) (ok' := fun k => ok k ∧ ¬ S k) (fun k hk2 => ⟨hk2.1, fun hS => by
    obtain ⟨_, _, hl, q, hq, cells, hc⟩ := hk2
    obtain ⟨cs, t, hc2, ht⟩ := ho k hS hl
    rw [hc] at hc2
    injection hc2 with hc2
    injection hc2 with _ hc2
    subst hc2
    exact ht hq⟩)) hk.kept (fun _ h => h.2)) (fun _ h => h.1)
theorem keepSp {w w1 : World} {wb B : Nat} {σ : Wat} {S : Nat → Prop} (h : Sp w wb B σ) (hk : Kp w w1 S) (ho : Off w S [47, 73]) : Sp w1 wb B σ := by
  obtain ⟨hB, v, h1, h2⟩ := h
  refine ⟨hB, v, hk.blk h1 (fun hS => ?_), ?_⟩
  · obtain ⟨cs, t, hc, ht⟩ := ho _ hS (blk_lt h1)
    rw [h1] at hc
    injection hc with hc
    injection hc with _ hc
    subst hc
    exact ht (by simp)
  · exact Kd.Q_mono (Kd.Q_kept (S := S) (Kd.Q_mono (Kd.Q_bound h2) (ok' := fun k => ¬ S k) (fun k hk2 hS => by
      obtain ⟨_, _, hl, q, hq, cells, hc⟩ := hk2
      obtain ⟨cs, t, hc2, ht⟩ := ho k hS hl
      rw [hc] at hc2
      injection hc2 with hc2
      injection hc2 with _ hc2
      subst hc2
      have : q ∈ [73] := hq
      simp at this
      subst this
      exact ht (by simp))) hk.kept (fun _ h => h)) (fun _ _ => trivial)
theorem _root_.Go.Proofs.Ytimakagmhikhfaa.Fr.Kp.of_grown {w w1 : World} {row : Option Nat} (hg : w.grownBy w1 row) : Kp w w1 (fun k => row = some k) := (Kp.refl w _).grown hg (fun k hk => .inl hk)
theorem off_none (w : World) (ts : List Nat) : Off w (fun k => (none : Option Nat) = some k) ts := fun k h => by cases h
/-- What is at the head of each round. -/
structure MS (w wr : World) (wb : Nat) (σ : Wat) (wts : List Int) (out : List S34) (v5 v6 : Value) : Prop where
  sp : Sp wr wb w.heap.size σ
  r5 : (Kd.int .i64).R 3 wr w.heap.size (fun _ => True) v5 wts
  s6 : Kd.S k34 34 wr w.heap.size (fun _ => True) v6 out
  bl : Below w.heap.size w wr
theorem MS.step {w wr w1 : World} {wb : Nat} {σ σ2 : Wat} {wts : List Int} {out : List S34} {v5 v6 : Value} (h : MS w wr wb σ wts out v5 v6) (hs : Sp w1 wb w.heap.size σ2) (hk : Kp wr w1 (SS wr w.heap.size)) : MS w w1 wb σ2 wts out v5 v6 :=
  ⟨hs, keepR h.r5 hk (off_mono (off_SS _ _) (by decide)), keepS h.s6 hk (off_mono (off_SS _ _) (by decide)), h.bl.trans (hk.toBelowB h.bl.size (fun i hi => hi.1))⟩
theorem MS.below {w wr w1 : World} {wb : Nat} {σ : Wat} {wts : List Int} {out : List S34} {v5 v6 : Value} (h : MS w wr wb σ wts out v5 v6) (hb : Below wr.heap.size wr w1) : MS w w1 wb σ wts out v5 v6 :=
  h.step (h.sp.below hb) (Kp.of_below hb _)
theorem Sp.setTill {w : World} {wb B : Nat} {σ : Wat} (h : Sp w wb B σ) (i : Int) : Sp (w.setCell ⟨wb, 0, none⟩ (.int .i64 i)) wb B { σ with till := i } ∧ Kp w (w.setCell ⟨wb, 0, none⟩ (.int .i64 i)) (SS w B) := by
  have hS := SS_wb h
  obtain ⟨hB, v, h1, h2⟩ := h
  exact ⟨⟨hB, v, blk_put h1 0 (.int .i64 i) rfl, Kd.Q_set h2 h1 t47 0 _⟩, (Kp.refl w _).setCell (.inl hS) _⟩
theorem within_calls (w : World) (n lo hi : Int) : Calls Try.prog 20 #[.int .i64 n, .int .i64 lo, .int .i64 hi] w fun e w' => e = .returned (.bool (decide (lo ≤ n) && decide (n ≤ hi))) ∧ w = w' := by
  by_cases c1 : lo ≤ n
  · have d1 : decide (lo ≤ n) = true := decide_eq_true c1
    by_cases c2 : n ≤ hi
    · have d2 : decide (n ≤ hi) = true := decide_eq_true c2
      rw [d1, d2]
      go_enter Try.func20, Try.ntmps20
      go_wp2
      go_ret
      exact ⟨rfl, rfl⟩
    · have d2 : decide (n ≤ hi) = false := decide_eq_false c2
      rw [d1, d2]
      go_enter Try.func20, Try.ntmps20
      go_wp2
      go_ret
      exact ⟨rfl, rfl⟩
  · have d1 : decide (lo ≤ n) = false := decide_eq_false c1
    rw [d1]
    go_enter Try.func20, Try.ntmps20
    go_wp2
    go_ret
    exact ⟨rfl, rfl⟩
/-- Is the act ahead of j one that sets the mark, or is none ahead. -/
def prevSet (l : List S31) (j : Nat) : Bool := decide (j = 0) || ((rd_T31 l ((j : Int) - 1)).f0 == 4)
structure Head (l : List S31) (j : Nat) (σ : Wat) (wts : List Int) (out : List S34) (N : Int) : Prop where
  jl : j ≤ l.length
  inv : Inv (prevSet l j) σ wts N
  bd : N + tot (l.drop j) ≤ 1099511627776
  res : run true l w0 [] = (run (prevSet l j) (l.drop j) σ wts).map (out ++ ·)
  wl : (wts.length : Int) ≤ N
  ol : (out.length : Int) ≤ N
theorem act_len (p : Bool) (a : S31) (σ : Wat) (ws : List Int) : (actOk p a σ ws).2.2.length ≤ ws.length + 1 := by
  unfold actOk
  split
  · exact Nat.le_succ _
  split
  · exact Nat.le_succ _
  split
  · exact Nat.le_succ _
  split
  · exact Nat.le_succ _
  split
  · exact Nat.le_succ _
  split
  · rw [List.length_append]; exact Nat.le_refl _
  · exact Nat.le_succ _
theorem info4 : (Try.prog.info? 4).map (fun i => (i.zero, i.size, i.bytes)) = some (some (.bool false), 1, 1) := by kernel_rfl
def MPost (w : World) (l : List S31) (e : Ending) (w' : World) : Prop :=
  ∃ v0_ : Value, e = .returned (.tuple #[v0_, .bool (run true l w0 []).isSome]) ∧ Kd.S k34 34 w' w.heap.size (fun _ => True) v0_ ((run true l w0 []).getD []) ∧ Below w.heap.size w w'
set_option maxHeartbeats 4000000 in
set_option maxRecDepth 100000 in
theorem marks_calls (A0 : Option Addr) (c0 : Nat) (l0 : List S31) (w : World) (hr0 : Kd.C k31 w A0 l0.length l0) (hc0 : l0.length ≤ c0) (ht : tot l0 ≤ 1099511627776) :
    Calls Try.prog 12 #[.slice A0 l0.length c0] w (MPost w l0) := by
  have hm := Kd.C_max hr0
  have HC := Lib.hid hr0
  clear hr0
  have hu22 := Try.underlying22
  go_enter Try.func12, Try.ntmps12
  go_wp2_with (first | ((with_reducible refine gate_dst (N := 19) rfl ?_); refine Kd.R_lit (Kd.int .i64) (w0 := w) w.heap.size 3 ?hg (N := 19) ?hd (xs := []) (inner := []) (ok := fun _ => True) (okp := fun _ => True) ?hr ?hp (fun _ hk => hk) trivial ((Below.refl w.heap.size w).alloc (Nat.le_refl _) _) (by simp) (by simp) ?_; (case hd => rfl); (case hg => rfl); (case hr => first | (go_simp; done) | (go_simp; rfl)); (case hp => exact (Reps.none _ _)); intro v1 w1 hr1 hb1 hg1 hn1) | ((with_reducible refine gate_dst (N := 20) rfl ?_); refine Kd.S_lit k34 (w0 := w) w.heap.size 34 ?hg (N := 20) ?hd (xs := []) (inner := []) (ok := fun _ => True) (okp := fun _ => True) ?hr ?hp (fun _ hk => hk) trivial hb1 hb1.size (by simp) ?_; (case hd => rfl); (case hg => rfl); (case hr => first | (go_simp; done) | (go_simp; rfl)); (case hp => exact (Reps.none _ _)); intro v2 w2 hs2 hb2 hg2 hn2))
  have hsp0 : Sp w2 w.heap.size w.heap.size w0 := ⟨Nat.le_refl _, .slice none 0 0, blk_grown (blk_grown (blk_new w _) hg1 (by simp)) hg2 (by simp), Kd.Q_nil _ _ _ _ _⟩
  have hr2 := keepR hr1 (Kp.of_grown hg2) (off_none _ _)
  have HS0 := Lib.hid (MS.mk hsp0 hr2 hs2 hb2)
  clear hr1 hb1 hg1 hn1 hs2 hb2 hg2 hn2 hsp0 hr2
  go_loopg [5, 6, 23] l0.length (fun kq v5 v6 v23 wr => ∃ (j : Nat) (σ : Wat) (wts : List Int) (out : List S34) (N : Int), v23 = .int .i64 j ∧ kq = l0.length - j ∧ Head l0 j σ wts out N ∧ MS w wr w.heap.size σ wts out v5 v6)
  case atStart => exact ⟨0, w0, [], [], 0, rfl, rfl, ⟨Nat.zero_le _, inv0, by rw [List.drop_zero]; omega, by simp [prevSet], by simp, by simp⟩, HS0.out⟩
  case round =>
    obtain ⟨j, σ, wts, out, N, rfl, hkq, hH, hM⟩ := hrel
    have HH := Lib.hid hH
    have HM := Lib.hid hM
    have HKQ := Lib.hid hkq
    clear hH hM hkq HS0
    by_cases j1 : j < l0.length
    · obtain ⟨ad, A2, c2, e1, x0, x1, x2, l2, g2⟩ := at_T31 HC.out j (by omega) (by omega)
      obtain ⟨a, ha⟩ : ∃ a, rd_T31 l0 (j : Int) = a := ⟨_, rfl⟩
      rw [ha] at x0 x1 x2 l2 g2
      subst e1
      simp only [Int.toNat_natCast] at x0 x1 x2
      replace x0 := (HM.out.bl.cell (World.block_lt_of_cell? w _ x0)).trans x0
      replace x1 := (HM.out.bl.cell (World.block_lt_of_cell? w _ x1)).trans x1
      replace x2 := (HM.out.bl.cell (World.block_lt_of_cell? w _ x2)).trans x2
      have HA := Lib.hid ha
      have HG := Lib.hid g2
      obtain ⟨p, hp⟩ : ∃ p, prevSet l0 j = p := ⟨_, rfl⟩
      have HP := Lib.hid hp
      obtain ⟨okk, hokk⟩ : ∃ b, (actOk p a σ wts).1 = b := ⟨_, rfl⟩
      obtain ⟨σ2, hσ2⟩ : ∃ b, (actOk p a σ wts).2.1 = b := ⟨_, rfl⟩
      obtain ⟨wts2, hwts2⟩ : ∃ b, (actOk p a σ wts).2.2 = b := ⟨_, rfl⟩
      have HO1 := Lib.hid hokk
      have HO2 := Lib.hid hσ2
      have HO3 := Lib.hid hwts2
      have hfin := HH.out.inv.fine
      have hbd := HH.out.bd
      have hN0 := HH.out.inv.pos
      have HF := Lib.hid hfin
      clear ha g2 hp hokk hσ2 hwts2 hfin
      go_upto_block 2 with (fail)
      have hM1 := HM.out.below (((Below.refl wr.heap.size wr).alloc (Nat.le_refl _) (Obj.cells #[Value.int IntKind.i64 a.f0, Value.int IntKind.i64 a.f1, Value.slice (A2) a.f2.length c2] 31)))
      have bk := blk_new wr (Obj.cells #[Value.int IntKind.i64 a.f0, Value.int IntKind.i64 a.f1, Value.slice A2 a.f2.length c2] 31)
      generalize hwA : wr.alloc (Obj.cells #[Value.int IntKind.i64 a.f0, Value.int IntKind.i64 a.f1, Value.slice A2 a.f2.length c2] 31) = wA at bk hM1 ⊢
      generalize hgb : wr.heap.size = gb at bk ⊢
      have b0 : wA.cell? ⟨gb, 0, none⟩ = some (.int .i64 a.f0) := blk_cell bk 0
      have b1 : wA.cell? ⟨gb, 1, none⟩ = some (.int .i64 a.f1) := blk_cell bk 1
      have b2 : wA.cell? ⟨gb, 2, none⟩ = some (.slice A2 a.f2.length c2) := blk_cell bk 2
      clear hwA hgb bk x0 x1 x2
      have HM1 := Lib.hid hM1
      clear hM1
      go_cut [5, 9] (fun v5' v9 wx => v9 = .bool okk ∧ MS w wx w.heap.size σ2 wts2 out v5' u6)
      case first =>
        have hfl : a.f2.length ≤ 1099511627776 := by
          have e3 : l0.drop j = a :: l0.drop (j + 1) := by rw [← HA.out, List.drop_eq_getElem_cons j1]; simp [rd_T31, j1]
          rw [e3] at hbd
          simp [tot, weight] at hbd
          omega
        by_cases k0 : a.f0 = 0
        · skip
          have d0 : (a.f0 == 0) = true := by rw [beq_iff_eq]; omega
          have e : actOk p a σ wts = ((σ.begin_ a.f1).1, (σ.begin_ a.f1).2, wts) := by unfold actOk; rw [if_pos (by omega)]
          have HE := Lib.hid e
          clear e
          clear k0
          go_wp2_with fail
          refine (Sw.begin_calls _ w.heap.size w.heap.size σ a.f1 N HM1.out.sp HM1.out.bl.size HF.out (by omega)).mono ?_
          rintro e w1 ⟨rfl, hs1, hk1⟩
          have HS1 := Lib.hid (HM1.out.step hs1 hk1)
          clear hs1 hk1
          go_wp2_with fail
          go_meet
          case rel =>
            rw [← HO1.out, ← HO2.out, ← HO3.out, HE.out]
            exact ⟨rfl, HS1.out⟩
        · skip
          by_cases k1 : a.f0 = 1
          · skip
            have d0 : (a.f0 == 0) = false := by rw [beq_eq_false_iff_ne]; omega
            have d1 : (a.f0 == 1) = true := by rw [beq_iff_eq]; omega
            have e : actOk p a σ wts = ((manyB a.f2 (decide (0 < (a.f2.length : Int))) σ).1, (manyB a.f2 (decide (0 < (a.f2.length : Int))) σ).2, wts) := by unfold actOk; rw [if_neg (by omega), if_pos (by omega)]
            have HE := Lib.hid e
            clear e
            clear k0 k1
            obtain ⟨b0, hb0⟩ : ∃ b, decide (0 < (a.f2.length : Int)) = b := ⟨_, rfl⟩
            rw [hb0] at HE
            go_wp2_with fail
            go_loopg [9, 45] (a.f2.length) (fun kq v9 vi wx => ∃ (m : Nat) (b : Bool) (τ : Wat), vi = .int .i64 m ∧ v9 = .bool b ∧ kq = a.f2.length - m ∧ m ≤ a.f2.length ∧ manyB (a.f2.drop m) b τ = manyB a.f2 b0 σ ∧ Fine τ.till τ.pend (N + m) ∧ MS w wx w.heap.size τ wts out u5 u6)
            case atStart => exact ⟨0, _, σ, rfl, rfl, by omega, Nat.zero_le _, by rw [List.drop_zero, ← hb0, show decide (0 < a.f2.length) = decide (0 < (a.f2.length : Int)) from decide_eq_decide.2 (by omega)], by simpa using HF.out, HM1.out⟩
            case round =>
              obtain ⟨m, b, τ, rfl, rfl, hkq, hm1, hmm, hft, hM2⟩ := hrel
              have HM2 := Lib.hid hM2
              have HMM := Lib.hid hmm
              have HFT := Lib.hid hft
              have HKQ2 := Lib.hid hkq
              clear hM2 hmm hft hkq
              by_cases m1 : m < a.f2.length
              · obtain ⟨ad2, e2, y0⟩ := Kd.at_int HG.out m (by omega) (by omega)
                subst e2
                simp only [Int.toNat_natCast] at y0
                obtain ⟨x, hx⟩ : ∃ x, rd a.f2 (m : Int) = x := ⟨_, rfl⟩
                rw [hx] at y0
                replace y0 := (HM2.out.bl.cell (World.block_lt_of_cell? w _ y0)).trans y0
                have hdr : a.f2.drop m = x :: a.f2.drop (m + 1) := by rw [← hx, List.drop_eq_getElem_cons m1]; simp [rd, m1]
                have HDR := Lib.hid hdr
                clear hdr hx
                cases b with
                | false =>
                  go_wp2_with fail
                  go_roundg (a.f2.length - (m + 1))
                  case measure => have := HKQ2.out; omega
                  case rel => exact ⟨m + 1, false, τ, by go_num, rfl, by omega, by omega, by have h := HMM.out; rw [HDR.out] at h; simpa [manyB] using h, HFT.out.mono (by omega), HM2.out⟩
                | true =>
                  go_wp2_with fail
                  refine (Sw.begin_calls _ w.heap.size w.heap.size τ x (N + m) HM2.out.sp HM2.out.bl.size HFT.out (by omega)).mono ?_
                  rintro e w1 ⟨rfl, hs1, hk1⟩
                  have HS1 := Lib.hid (HM2.out.step hs1 hk1)
                  clear hs1 hk1
                  go_wp2_with fail
                  go_roundg (a.f2.length - (m + 1))
                  case measure => have := HKQ2.out; omega
                  case rel => exact ⟨m + 1, _, _, by go_num, rfl, by omega, by omega, by have h := HMM.out; rw [HDR.out] at h; simpa [manyB] using h, (begin_fine HFT.out (by omega)).mono (by omega), HS1.out⟩
              · have hme : m = a.f2.length := by omega
                have hd0 : a.f2.drop m = [] := by rw [hme]; exact List.drop_length
                have h := HMM.out
                rw [hd0] at h
                simp only [manyB] at h
                rw [← h] at HE
                clear hd0 h hme
                go_wp2_with fail
                go_meet
                case rel =>
                  rw [← HO1.out, ← HO2.out, ← HO3.out, HE.out]
                  exact ⟨rfl, HM2.out⟩
          · skip
            by_cases k2 : a.f0 = 2
            · skip
              have d0 : (a.f0 == 0) = false := by rw [beq_eq_false_iff_ne]; omega
              have d1 : (a.f0 == 1) = false := by rw [beq_eq_false_iff_ne]; omega
              have d2 : (a.f0 == 2) = true := by rw [beq_iff_eq]; omega
              have e : actOk p a σ wts = ((σ.done_ a.f1).1, (σ.done_ a.f1).2, wts) := by unfold actOk; rw [if_neg (by omega), if_neg (by omega), if_pos (by omega)]
              have HE := Lib.hid e
              clear e
              clear k0 k1 k2
              go_wp2_with fail
              refine (Sw.done_calls _ w.heap.size w.heap.size σ a.f1 N HM1.out.sp HM1.out.bl.size HF.out (by omega)).mono ?_
              rintro e w1 ⟨rfl, hs1, hk1⟩
              have HS1 := Lib.hid (HM1.out.step hs1 hk1)
              clear hs1 hk1
              go_wp2_with fail
              go_meet
              case rel =>
                rw [← HO1.out, ← HO2.out, ← HO3.out, HE.out]
                exact ⟨rfl, HS1.out⟩
            · skip
              by_cases k3 : a.f0 = 3
              · skip
                have d0 : (a.f0 == 0) = false := by rw [beq_eq_false_iff_ne]; omega
                have d1 : (a.f0 == 1) = false := by rw [beq_eq_false_iff_ne]; omega
                have d2 : (a.f0 == 2) = false := by rw [beq_eq_false_iff_ne]; omega
                have d3 : (a.f0 == 3) = true := by rw [beq_iff_eq]; omega
                have e : actOk p a σ wts = ((manyD a.f2 (decide (0 < (a.f2.length : Int))) σ).1, (manyD a.f2 (decide (0 < (a.f2.length : Int))) σ).2, wts) := by unfold actOk; rw [if_neg (by omega), if_neg (by omega), if_neg (by omega), if_pos (by omega)]
                have HE := Lib.hid e
                clear e
                clear k0 k1 k2 k3
                obtain ⟨b0, hb0⟩ : ∃ b, decide (0 < (a.f2.length : Int)) = b := ⟨_, rfl⟩
                rw [hb0] at HE
                go_wp2_with fail
                go_loopg [9, 71] (a.f2.length) (fun kq v9 vi wx => ∃ (m : Nat) (b : Bool) (τ : Wat), vi = .int .i64 m ∧ v9 = .bool b ∧ kq = a.f2.length - m ∧ m ≤ a.f2.length ∧ manyD (a.f2.drop m) b τ = manyD a.f2 b0 σ ∧ Fine τ.till τ.pend (N + m) ∧ MS w wx w.heap.size τ wts out u5 u6)
                case atStart => exact ⟨0, _, σ, rfl, rfl, by omega, Nat.zero_le _, by rw [List.drop_zero, ← hb0, show decide (0 < a.f2.length) = decide (0 < (a.f2.length : Int)) from decide_eq_decide.2 (by omega)], by simpa using HF.out, HM1.out⟩
                case round =>
                  obtain ⟨m, b, τ, rfl, rfl, hkq, hm1, hmm, hft, hM2⟩ := hrel
                  have HM2 := Lib.hid hM2
                  have HMM := Lib.hid hmm
                  have HFT := Lib.hid hft
                  have HKQ2 := Lib.hid hkq
                  clear hM2 hmm hft hkq
                  by_cases m1 : m < a.f2.length
                  · obtain ⟨ad2, e2, y0⟩ := Kd.at_int HG.out m (by omega) (by omega)
                    subst e2
                    simp only [Int.toNat_natCast] at y0
                    obtain ⟨x, hx⟩ : ∃ x, rd a.f2 (m : Int) = x := ⟨_, rfl⟩
                    rw [hx] at y0
                    replace y0 := (HM2.out.bl.cell (World.block_lt_of_cell? w _ y0)).trans y0
                    have hdr : a.f2.drop m = x :: a.f2.drop (m + 1) := by rw [← hx, List.drop_eq_getElem_cons m1]; simp [rd, m1]
                    have HDR := Lib.hid hdr
                    clear hdr hx
                    cases b with
                    | false =>
                      go_wp2_with fail
                      go_roundg (a.f2.length - (m + 1))
                      case measure => have := HKQ2.out; omega
                      case rel => exact ⟨m + 1, false, τ, by go_num, rfl, by omega, by omega, by have h := HMM.out; rw [HDR.out] at h; simpa [manyD] using h, HFT.out.mono (by omega), HM2.out⟩
                    | true =>
                      go_wp2_with fail
                      refine (Sw.done_calls _ w.heap.size w.heap.size τ x (N + m) HM2.out.sp HM2.out.bl.size HFT.out (by omega)).mono ?_
                      rintro e w1 ⟨rfl, hs1, hk1⟩
                      have HS1 := Lib.hid (HM2.out.step hs1 hk1)
                      clear hs1 hk1
                      go_wp2_with fail
                      go_roundg (a.f2.length - (m + 1))
                      case measure => have := HKQ2.out; omega
                      case rel => exact ⟨m + 1, _, _, by go_num, rfl, by omega, by omega, by have h := HMM.out; rw [HDR.out] at h; simpa [manyD] using h, (done_fine HFT.out).mono (by omega), HS1.out⟩
                  · have hme : m = a.f2.length := by omega
                    have hd0 : a.f2.drop m = [] := by rw [hme]; exact List.drop_length
                    have h := HMM.out
                    rw [hd0] at h
                    simp only [manyD] at h
                    rw [← h] at HE
                    clear hd0 h hme
                    go_wp2_with fail
                    go_meet
                    case rel =>
                      rw [← HO1.out, ← HO2.out, ← HO3.out, HE.out]
                      exact ⟨rfl, HM2.out⟩
              · skip
                by_cases k4 : a.f0 = 4
                · skip
                  have d0 : (a.f0 == 0) = false := by rw [beq_eq_false_iff_ne]; omega
                  have d1 : (a.f0 == 1) = false := by rw [beq_eq_false_iff_ne]; omega
                  have d2 : (a.f0 == 2) = false := by rw [beq_eq_false_iff_ne]; omega
                  have d3 : (a.f0 == 3) = false := by rw [beq_eq_false_iff_ne]; omega
                  have d4 : (a.f0 == 4) = true := by rw [beq_iff_eq]; omega
                  have e : actOk p a σ wts = (decide (0 ≤ a.f1) && decide (a.f1 ≤ most) && p, { σ with till := a.f1 }, wts) := by unfold actOk; rw [if_neg (by omega), if_neg (by omega), if_neg (by omega), if_neg (by omega), if_pos (by omega)]
                  replace e : actOk p a σ wts = (decide (0 ≤ a.f1) && decide (a.f1 ≤ 1099511627776) && p, { σ with till := a.f1 }, wts) := e
                  have HE := Lib.hid e
                  clear e
                  clear k0 k1 k2 k3 k4
                  obtain ⟨A7, c7, g1, g2⟩ := Sp.at_ HM1.out.sp
                  obtain ⟨z0, z1, z2, z3, z4, z5⟩ := Sp.cells g1
                  have hst := Sp.setTill HM1.out.sp a.f1
                  have HST := Lib.hid (HM1.out.step hst.1 hst.2)
                  clear hst g1 g2
                  obtain ⟨b1, hb1⟩ : ∃ b, (decide (0 ≤ a.f1) && decide (a.f1 ≤ 1099511627776)) = b := ⟨_, rfl⟩
                  rw [hb1] at HE
                  have hwi := fun w => within_calls w a.f1 0 1099511627776
                  rw [hb1] at hwi
                  have HW := Lib.hid hwi
                  clear hwi hb1
                  go_wp2_with fail
                  refine (HW.out _).mono ?_
                  rintro e w1 ⟨rfl, rfl⟩
                  cases b1 with
                  | false =>
                    go_wp2_with fail
                    go_meet
                    case rel =>
                      rw [← HO1.out, ← HO2.out, ← HO3.out, HE.out]
                      exact ⟨rfl, HST.out⟩
                  | true =>
                    · by_cases j0 : j = 0
                      · have dj : ((j : Int) == 0) = true := by simp [j0]
                        have hpt : p = true := by rw [← HP.out]; simp [prevSet, j0]
                        have HPT := Lib.hid hpt
                        clear j0 hpt
                        go_wp2_with fail
                        go_meet
                        case rel =>
                          rw [← HO1.out, ← HO2.out, ← HO3.out, HE.out]
                          exact ⟨by rw [HPT.out]; rfl, HST.out⟩
                      · have dj : ((j : Int) == 0) = false := by rw [beq_eq_false_iff_ne]; omega
                        obtain ⟨ad8, A8, c8, e8, q0, _, _, _, _⟩ := at_T31 HC.out ((j : Int) - 1) (by omega) (by omega)
                        obtain rfl : ad8 = ad := by injection e8 with e8; exact e8.symm
                        have hpt : p = ((rd_T31 l0 ((j : Int) - 1)).f0 == 4) := by rw [← HP.out]; simp [prevSet, j0]
                        replace q0 := (HM1.out.bl.cell (World.block_lt_of_cell? w _ q0)).trans q0
                        obtain ⟨pv, hpv⟩ : ∃ b, (rd_T31 l0 ((j : Int) - 1)).f0 = b := ⟨_, rfl⟩
                        rw [hpv] at hpt q0
                        rw [show ((j : Int) - 1).toNat = j - 1 by omega] at q0
                        have HPT := Lib.hid hpt
                        have hj1 : 0 ≤ (j : Int) - 1 := by omega
                        have hj2 : (j : Int) - 1 < (l0.length : Int) := by omega
                        clear hpv hpt e8
                        cases hpf : (pv == 4) with
                        | true =>
                          rw [hpf] at HPT
                          go_wp2_with fail
                          go_meet
                          case rel =>
                            rw [← HO1.out, ← HO2.out, ← HO3.out, HE.out]
                            exact ⟨by rw [HPT.out]; rfl, HST.out⟩
                        | false =>
                          rw [hpf] at HPT
                          go_wp2_with fail
                          go_meet
                          case rel =>
                            rw [← HO1.out, ← HO2.out, ← HO3.out, HE.out]
                            exact ⟨by rw [HPT.out]; rfl, HST.out⟩
                · skip
                  by_cases k5 : a.f0 = 5
                  · skip
                    have d0 : (a.f0 == 0) = false := by rw [beq_eq_false_iff_ne]; omega
                    have d1 : (a.f0 == 1) = false := by rw [beq_eq_false_iff_ne]; omega
                    have d2 : (a.f0 == 2) = false := by rw [beq_eq_false_iff_ne]; omega
                    have d3 : (a.f0 == 3) = false := by rw [beq_eq_false_iff_ne]; omega
                    have d4 : (a.f0 == 4) = false := by rw [beq_eq_false_iff_ne]; omega
                    have d5 : (a.f0 == 5) = true := by rw [beq_iff_eq]; omega
                    have e : actOk p a σ wts = (decide (1 ≤ a.f1) && decide (a.f1 ≤ most), σ, wts ++ [a.f1]) := by unfold actOk; rw [if_neg (by omega), if_neg (by omega), if_neg (by omega), if_neg (by omega), if_neg (by omega), if_pos (by omega)]
                    replace e : actOk p a σ wts = (decide (1 ≤ a.f1) && decide (a.f1 ≤ 1099511627776), σ, wts ++ [a.f1]) := e
                    have HE := Lib.hid e
                    clear e
                    clear k0 k1 k2 k3 k4 k5
                    obtain ⟨b1, hb1⟩ : ∃ b, (decide (1 ≤ a.f1) && decide (a.f1 ≤ 1099511627776)) = b := ⟨_, rfl⟩
                    rw [hb1] at HE
                    have hwi := fun w => within_calls w a.f1 1 1099511627776
                    rw [hb1] at hwi
                    have HW := Lib.hid hwi
                    have hwl := HH.out.wl
                    have hlb5 : (wts.length + 1) * 8 ≤ 140737488355328 := by omega
                    clear hwi hb1 hwl
                    go_wp2_with fail
                    refine (HW.out _).mono ?_
                    rintro e w1 ⟨rfl, rfl⟩
                    go_wp2_with (first | ((with_reducible refine gate_builtin (b := .append) (xs := #[.tmp 110, .tmp 113]) rfl ?_); at_builtin; refine Kd.R_append (Kd.int .i64) (w0 := w) w.heap.size rfl (.tmp 110) (.tmp 113) 29 3 (.int .i64 0) 8 rfl Try.underlying29 info3 rfl (by decide) (by decide) u5 wts a.f1 [.int .i64 a.f1] (fun _ => True) (fun _ => False) rfl rfl rfl (fun _ h => h.elim) (fun _ _ => trivial) HM1.out.r5 HM1.out.bl HM1.out.bl.size hlb5 ?_; intro v9 w9 hr9 hb9 hg9 hn9))
                    go_meet
                    case rel =>
                      rw [← HO1.out, ← HO2.out, ← HO3.out, HE.out]
                      have hof : ∀ ts, 3 ∉ ts → Off _ _ ts := fun ts hts k hk _ => by
                        obtain ⟨cells, hc⟩ := Kd.R_typed HM1.out.r5 k hk
                        exact ⟨cells, 3, hc, hts⟩
                      exact ⟨rfl, keepSp HM1.out.sp (Kp.of_grown hg9) (hof _ (by decide)), hr9, keepS HM1.out.s6 (Kp.of_grown hg9) (hof _ (by decide)), hb9⟩
                  · skip
                    have d0 : (a.f0 == 0) = false := by rw [beq_eq_false_iff_ne]; omega
                    have d1 : (a.f0 == 1) = false := by rw [beq_eq_false_iff_ne]; omega
                    have d2 : (a.f0 == 2) = false := by rw [beq_eq_false_iff_ne]; omega
                    have d3 : (a.f0 == 3) = false := by rw [beq_eq_false_iff_ne]; omega
                    have d4 : (a.f0 == 4) = false := by rw [beq_eq_false_iff_ne]; omega
                    have d5 : (a.f0 == 5) = false := by rw [beq_eq_false_iff_ne]; omega
                    have e : actOk p a σ wts = (false, σ, wts) := by unfold actOk; rw [if_neg (by omega), if_neg (by omega), if_neg (by omega), if_neg (by omega), if_neg (by omega), if_neg (by omega)]
                    have HE := Lib.hid e
                    clear e
                    clear k0 k1 k2 k3 k4 k5
                    go_wp2_with fail
                    go_meet
                    case rel =>
                      rw [← HO1.out, ← HO2.out, ← HO3.out, HE.out]
                      exact ⟨rfl, HM1.out⟩
      case rest =>
        obtain ⟨wq, hwq⟩ : ∃ x : World, x = wc := ⟨_, rfl⟩
        subst hwq
        obtain ⟨rfl, hM2⟩ := hcut
        have HM2 := Lib.hid hM2
        clear hM2 b0 b1 b2 HM1 HM hbd
        have hdr : l0.drop j = a :: l0.drop (j + 1) := by rw [← HA.out, List.drop_eq_getElem_cons j1]; simp [rd_T31, j1]
        have HDR := Lib.hid hdr
        clear hdr
        obtain ⟨A7, c7, g1, g2⟩ := Sp.at_ HM2.out.sp
        obtain ⟨z0, z1, z2, z3, z4, z5⟩ := Sp.cells g1
        clear g1 g2 z3 z4 z5
        cases okk with
        | false =>
          have hres : run true l0 w0 [] = none := by
            rw [HH.out.res, HP.out, HDR.out]
            simp [run, HO1.out]
          have HRES := Lib.hid hres
          clear hres
          go_wp2_with fail
          go_ret2
          refine ⟨.slice none 0 0, ?_, ?_, HM2.out.bl⟩
          · rw [HRES.out]; rfl
          · rw [HRES.out]; exact Kd.S_nil _ _ _ _ _
        | true =>
          have hinv : Inv (a.f0 == 4) σ2 wts2 (N + weight a) := by
            have h := HH.out.inv
            rw [HP.out] at h
            have h2 := act_inv h HO1.out
            rw [HO2.out, HO3.out] at h2
            exact h2
          have HI := Lib.hid hinv
          clear hinv
          obtain ⟨till, htl⟩ : ∃ t, σ2.till = t := ⟨_, rfl⟩
          obtain ⟨lst, hls⟩ : ∃ t, σ2.last = t := ⟨_, rfl⟩
          obtain ⟨pl, hpl⟩ : ∃ t, σ2.pend.length = t := ⟨_, rfl⟩
          rw [htl] at z0
          rw [hls] at z1
          rw [hpl] at z2
          have HTL := Lib.hid htl
          have HLS := Lib.hid hls
          have HPL := Lib.hid hpl
          clear htl hls hpl
          have y0 := fun o => past1 z0 o
          have y1 := fun o => past1 z1 o
          have y2 := fun o => past1 z2 o
          go_upto_region 35 with (fail)
          go_cut [14] (fun v14 wx => v14 = .pointer (some ⟨wq.heap.size, 0, none⟩) ∧ wx = (wq.alloc (.cells #[.int .i64 till, .int .i64 lst, .int .i64 pl, .int .i64 0, .slice none 0 0] 34)).drew)
          case first =>
            go_region
            all_goals (go_wp2_with fail; go_meet)
            case rel => exact ⟨rfl, rfl⟩
          case rest =>
            obtain ⟨rfl, hwx⟩ := hcut
            have bk : wc.heap[wq.heap.size]? = some (.cells #[.int .i64 till, .int .i64 lst, .int .i64 pl, .int .i64 0, .slice none 0 0] 34 (0, 0)) := by rw [hwx]; exact blk_new wq _
            have hK0 : Kp wq wc (fun k => wq.heap.size ≤ k) := by rw [hwx]; exact ((Kp.refl wq _).alloc _).drew
            clear hwx y0 y1 y2
            have hwl : w.heap.size < wq.heap.size := by obtain ⟨_, v, h, _⟩ := HM2.out.sp; exact blk_lt h
            obtain ⟨n1, hn1⟩ : ∃ n, wq.heap.size = n := ⟨_, rfl⟩
            have HWN := Lib.hid hn1
            rw [hn1] at bk hK0 hwl ⊢
            have hne : w.heap.size ≠ n1 := by omega
            have BK0 := Lib.hid bk
            have HK0 := Lib.hid hK0
            have hwts : (wts2.length : Int) ≤ N + 1 := by
              have h1 := act_len p a σ wts
              rw [HO3.out] at h1
              have h2 := HH.out.wl
              omega
            clear hn1 bk hK0
            have hbd2 := HH.out.bd
            rw [HDR.out] at hbd2
            simp only [tot, List.map_cons, List.sum_cons, weight] at hbd2
            have hwts3 : wts2.length ≤ 1099511627776 := by omega
            have hol := HH.out.ol
            have hout3 : out.length ≤ 1099511627776 := by omega
            obtain ⟨A5, c5, e5⟩ := Kd.R_slice HM2.out.r5
            subst e5
            go_wp2_with fail
            go_loopg [133] wts2.length (fun kq v133 wr => ∃ (m : Nat) (u : Value), v133 = .int .i64 m ∧ kq = wts2.length - m ∧ m ≤ wts2.length ∧ wr.heap[n1]? = some (.cells #[.int .i64 till, .int .i64 lst, .int .i64 pl, .int .i64 (((wts2.take m).filter fun x => decide (till < x)).length : Nat), u] 34 (0, 0)) ∧ Kd.bool.R 4 wr n1 (fun _ => True) u ((wts2.take m).map fun x => decide (x ≤ till)) ∧ Kp wq wr (fun k => n1 ≤ k))
            case atStart => exact ⟨0, .slice none 0 0, rfl, by omega, Nat.zero_le _, BK0.out, Kd.R_nil _ _ _ _ _, HK0.out⟩
            case round =>
              obtain ⟨m, u, rfl, hkq2, hm1, hbk, hru, hKw⟩ := hrel
              have HBK := Lib.hid hbk
              have HER := Lib.hid hru
              have HKW := Lib.hid hKw
              have HKQ2 := Lib.hid hkq2
              have t0 := hKw.cell z0 (by show ¬ n1 ≤ w.heap.size; omega)
              have hn1 : n1 ≤ wr.heap.size := by have := blk_lt hbk; omega
              have hrx := keepR HM2.out.r5 hKw (fun k h hl => by have := HWN.out; omega)
              clear hbk hru hKw hkq2
              by_cases m1 : m < wts2.length
              · obtain ⟨ad3, e3, y3⟩ := Kd.at_int (Kd.R_reads' hrx).2.2 m (by omega) (by omega)
                subst e3
                simp only [Int.toNat_natCast] at y3
                obtain ⟨x, hx⟩ : ∃ x, rd wts2 (m : Int) = x := ⟨_, rfl⟩
                rw [hx] at y3
                have htk : wts2.take (m + 1) = wts2.take m ++ [x] := by
                  rw [List.take_add_one, List.getElem?_eq_getElem m1, ← hx]
                  simp [rd, m1]
                have HTK := Lib.hid htk
                clear hx htk hrx
                obtain ⟨cn, hcn⟩ : ∃ c, ((wts2.take m).filter fun x => decide (till < x)).length = c := ⟨_, rfl⟩
                obtain ⟨xs, hxs⟩ : ∃ c, (wts2.take m).map (fun x => decide (x ≤ till)) = c := ⟨_, rfl⟩
                have hcl : cn ≤ wts2.length := by
                  rw [← hcn]
                  exact Nat.le_trans (List.length_filter_le _ _) (by rw [List.length_take]; omega)
                have hxl : xs.length ≤ wts2.length := by rw [← hxs, List.length_map, List.length_take]; omega
                rw [hcn] at HBK
                rw [hxs] at HER
                have hlx : (xs.length + 1) * 1 ≤ 140737488355328 := by omega
                have HCN := Lib.hid hcn
                have HXS := Lib.hid hxs
                have q4 : wr.cell? ⟨n1, 4, none⟩ = some u := blk_cell HBK.out 4
                have q3 : wr.cell? ⟨n1, 3, none⟩ = some (.int .i64 cn) := blk_cell HBK.out 3
                have HNB := Lib.hid (show ¬ some n1 = u.ownBlock from fun h => by
                  obtain ⟨cells, hc⟩ := Kd.R_typed HER.out n1 h.symm
                  rw [HBK.out] at hc
                  injection hc with hc; injection hc with _ hc; cases hc)
                have HNW := Lib.hid (show ¬ some w.heap.size = u.ownBlock from fun h => by
                  obtain ⟨_, hbb, _, _⟩ := (Kd.R_bound HER.out).1 _ h.symm
                  omega)
                clear hcn hxs
                obtain ⟨bq, hbq⟩ : ∃ b, decide (x ≤ till) = b := ⟨_, rfl⟩
                go_upto_region 39 with (fail)
                refine start_ (n := 12) (S := fun w' => w'.cell? ⟨n1, 4, none⟩ = some u ∧ w'.cell? ⟨w.heap.size, 0, none⟩ = some (.int .i64 till)) (ds := [11]) #[false, false, false, false, false, false, false, false, false, false, false, false] (by kernel_rfl) rfl rfl ⟨q4, t0⟩ (fun hHeld => ?_)
                refine pure_ (i := 0) (N := some 137) (v := ?_) (a' := ?_) #[true, false, false, false, false, false, false, false, false, false, false, false] rfl rfl (by kernel_rfl) (fun _ _ _ h => h) (Or.inl ⟨by rfl, ?_⟩) ?_ ?_
                rotate_left
                · intro w'
                  go_simp
                  with_reducible rfl
                rotate_left
                · simp only [Act.put, List.setIfInBounds_toArray, List.set_cons_zero, List.set_cons_succ, i64_w, i32_w]
                  rfl
                refine pure_ (i := 2) (N := some 139) (v := ?_) (a' := ?_) #[true, false, true, false, false, false, false, false, false, false, false, false] rfl rfl (by kernel_rfl) (fun _ _ _ h => h) (Or.inl ⟨by rfl, ?_⟩) ?_ ?_
                rotate_left
                · intro w'
                  go_simp
                  with_reducible rfl
                rotate_left
                · simp only [Act.put, List.setIfInBounds_toArray, List.set_cons_zero, List.set_cons_succ, i64_w, i32_w]
                  rfl
                refine pure_ (i := 3) (N := some 140) (v := ?_) (a' := ?_) #[true, false, true, true, false, false, false, false, false, false, false, false] rfl rfl (by kernel_rfl) (fun _ _ _ h => h) (Or.inl ⟨by rfl, ?_⟩) ?_ ?_
                rotate_left
                · intro w'
                  go_simp
                  with_reducible rfl
                rotate_left
                · simp only [Act.put, List.setIfInBounds_toArray, List.set_cons_zero, List.set_cons_succ, i64_w, i32_w]
                  rfl
                refine pure_ (i := 4) (N := some 141) (v := ?_) (a' := ?_) #[true, false, true, true, true, false, false, false, false, false, false, false] rfl rfl (by kernel_rfl) (fun _ _ _ h => h) (Or.inl ⟨by rfl, ?_⟩) ?_ ?_
                rotate_left
                · intro w'
                  go_simp
                  with_reducible rfl
                rotate_left
                · simp only [Act.put, List.setIfInBounds_toArray, List.set_cons_zero, List.set_cons_succ, i64_w, i32_w]
                  rfl
                refine pure_ (i := 5) (N := some 142) (v := ?_) (a' := ?_) #[true, false, true, true, true, true, false, false, false, false, false, false] rfl rfl (by kernel_rfl) (fun _ _ _ h => h) (Or.inl ⟨by rfl, ?_⟩) ?_ ?_
                rotate_left
                · intro w'
                  go_simp
                  with_reducible rfl
                rotate_left
                · simp only [Act.put, List.setIfInBounds_toArray, List.set_cons_zero, List.set_cons_succ, i64_w, i32_w]
                  rfl
                refine take_ (i := 1) (N := some 138) (v := ?_) (a' := ?_) #[true, true, true, true, true, true, false, false, false, false, false, false] rfl rfl (by kernel_rfl) (fun _ _ _ h => h) (Or.inl ⟨by rfl, ?_⟩) hHeld ?_ ?_
                rotate_left
                · rintro w' ⟨s0, s1⟩
                  go_simp
                  with_reducible rfl
                rotate_left
                · simp only [Act.put, List.setIfInBounds_toArray, List.set_cons_zero, List.set_cons_succ, i64_w, i32_w]
                  rfl
                refine take_ (i := 6) (N := some 143) (v := ?_) (a' := ?_) #[true, true, true, true, true, true, true, false, false, false, false, false] rfl rfl (by kernel_rfl) (fun _ _ _ h => h) (Or.inl ⟨by rfl, ?_⟩) hHeld ?_ ?_
                rotate_left
                · rintro w' ⟨s0, s1⟩
                  go_simp
                  with_reducible rfl
                rotate_left
                · simp only [Act.put, List.setIfInBounds_toArray, List.set_cons_zero, List.set_cons_succ, i64_w, i32_w]
                  rfl
                refine pure_ (i := 7) (N := some 144) (v := ?_) (a' := ?_) #[true, true, true, true, true, true, true, true, false, false, false, false] rfl rfl (by kernel_rfl) (fun _ _ _ h => h) (Or.inl ⟨by rfl, ?_⟩) ?_ ?_
                rotate_left
                · intro w'
                  go_simp
                  with_reducible rfl
                rotate_left
                · simp only [Act.put, List.setIfInBounds_toArray, List.set_cons_zero, List.set_cons_succ, i64_w, i32_w]
                  rfl
                refine one_ (i := 8) (N := some 145) #[true, true, true, true, true, true, true, true, true, false, false, false] rfl rfl (by kernel_rfl) (by decide) (fun K hK => ?_)
                refine value_ (w1 := ?_) (v := ?_) (by rfl) rfl ?_ ?_
                rotate_left 2
                · go_simp
                  constructor
                  · rfl
                  · rfl
                refine hK.out _ _ ⟨past1 (w := wr.drew) q4 _, past1 (w := wr.drew) t0 _⟩ (fun hHeld => ?_)
                clear hK K
                refine norm_ (a' := ?_) ?_ ?_
                rotate_left
                · show Act.put _ (some 145) _ = _
                  simp only [Act.put, List.setIfInBounds_toArray, List.set_cons_zero, List.set_cons_succ, i64_w, i32_w]
                  rfl
                refine one_ (i := 9) (N := some 146) #[true, true, true, true, true, true, true, true, true, true, false, false] rfl rfl (by kernel_rfl) (by decide) (fun K hK => ?_)
                refine Kd.R_append_step Kd.bool (w0 := wr) (W := wr.drew) n1 (by rfl) (.tmp 138) (.tmp 145) 32 4 (.bool false) 1 (by rfl) Try.underlying32 info4 rfl (by decide) (by decide) u xs bq [.bool bq] (fun _ => True) (fun _ => False) rfl rfl rfl (fun _ h => h.elim) (fun _ _ => trivial) (Kd.R_drew HER.out) ((Below.refl n1 wr).drew) hn1 hlx ?_
                intro v1 w1 hr1 hb1 hg1 hn2
                obtain ⟨n7, A1, c1, rfl⟩ : ∃ n A c, v1 = .slice A n c := (by obtain ⟨A, c, e⟩ := Kd.R_slice hr1; exact ⟨_, A, c, e⟩)
                have kg : Kp wr w1 (fun k => some k = u.ownBlock) := ((Kp.refl wr (fun k => some k = u.ownBlock)).drew).grown hg1 (fun k hk => .inl hk.symm)
                have q4' := kg.cell q4 HNB.out
                have t0' := kg.cell t0 HNW.out
                have q4f := blk_frozen (kg.blk HBK.out HNB.out) 4
                refine hK.out _ _ ⟨q4', t0'⟩ (fun hHeld => ?_)
                clear hK K
                refine norm_ (a' := ?_) ?_ ?_
                rotate_left
                · show Act.put _ (some 146) _ = _
                  simp only [Act.put, List.setIfInBounds_toArray, List.set_cons_zero, List.set_cons_succ, i64_w, i32_w]
                  rfl
                refine pure_ (i := 10) (N := some 147) (v := ?_) (a' := ?_) #[true, true, true, true, true, true, true, true, true, true, true, false] rfl rfl (by kernel_rfl) (fun _ _ _ h => h) (Or.inl ⟨by rfl, ?_⟩) ?_ ?_
                rotate_left
                · intro w'
                  go_simp
                  with_reducible rfl
                rotate_left
                · simp only [Act.put, List.setIfInBounds_toArray, List.set_cons_zero, List.set_cons_succ, i64_w, i32_w]
                  rfl
                refine last_ (i := 11) (N := none) #[true, true, true, true, true, true, true, true, true, true, true, true] rfl rfl (by kernel_rfl) (by decide) (fun K hK => ?_)
                refine skip_ (w1 := ?_) (by rfl) rfl ?_ ?_
                rotate_left
                · go_simp
                  rfl
                refine hK.out _ _ ?_
                clear hK K
                refine done_ (by kernel_rfl) ?_

                have q3' := kg.cell q3 HNB.out
                have q3f := blk_frozen (kg.blk HBK.out HNB.out) 3
                have hb9 := kg.blk HBK.out HNB.out
                have p9 := blk_put hb9 4 (.slice A1 n7 c1) rfl
                have r9 := Kd.R_set hr1 hb9 (by decide) 4 (.slice A1 n7 c1)
                have k9 : Kp wq (w1.setCell ⟨n1, 4, none⟩ (.slice A1 n7 c1)) (fun k => n1 ≤ k) := (HKW.out.trans kg (fun k hk => .inl ((Kd.R_bound HER.out).1 _ hk.symm).2.1)).setCell (.inl (Nat.le_refl _)) _
                have hxm : xs ++ [bq] = (wts2.take (m + 1)).map (fun x => decide (x ≤ till)) := by rw [HTK.out, List.map_append, HXS.out, ← hbq]; rfl
                have HP9 := Lib.hid p9
                have HR9 := Lib.hid r9
                have HK9 := Lib.hid k9
                have HXM := Lib.hid hxm
                clear hb9 p9 r9 k9 hxm hr1 hb1 hg1 hn2 kg
                by_cases hgt : till < x
                · have dgt : decide (till < x) = true := decide_eq_true hgt
                  have HD2 := Lib.hid dgt
                  go_wp2_with fail
                  go_roundg (wts2.length - (m + 1))
                  case measure => have := HKQ2.out; omega
                  case rel =>
                    refine ⟨m + 1, .slice A1 n7 c1, by go_num, by omega, by omega, ?_, ?_, HK9.out.setCell (.inl (Nat.le_refl _)) _⟩
                    · have hc : ((wts2.take (m + 1)).filter fun x => decide (till < x)).length = cn + 1 := by
                        rw [HTK.out, List.filter_append, List.length_append, HCN.out]
                        simp [HD2.out]
                      rw [hc]
                      have := blk_put HP9.out 3 (.int .i64 ((cn : Int) + 1)) rfl
                      simpa using this
                    · rw [← HXM.out]
                      exact Kd.R_set HR9.out HP9.out (by decide) 3 _
                · have dgt : decide (till < x) = false := decide_eq_false hgt
                  have HD2 := Lib.hid dgt
                  go_wp2_with fail
                  go_roundg (wts2.length - (m + 1))
                  case measure => have := HKQ2.out; omega
                  case rel =>
                    refine ⟨m + 1, .slice A1 n7 c1, by go_num, by omega, by omega, ?_, ?_, HK9.out⟩
                    · have hc : ((wts2.take (m + 1)).filter fun x => decide (till < x)).length = cn := by
                        rw [HTK.out, List.filter_append, List.length_append, HCN.out]
                        simp [HD2.out]
                      rw [hc]
                      exact HP9.out
                    · rw [← HXM.out]
                      exact HR9.out
              · have hme : wts2.take m = wts2 := List.take_of_length_le (by omega)
                rw [hme] at HBK HER
                obtain ⟨A8, c8, e8⟩ := Kd.R_slice HER.out
                obtain ⟨n8, hn8⟩ : ∃ n, (wts2.map fun x => decide (x ≤ till)).length = n := ⟨_, rfl⟩
                rw [hn8] at e8
                subst e8
                obtain ⟨cn, hcn⟩ : ∃ c, (wts2.filter fun x => decide (till < x)).length = c := ⟨_, rfl⟩
                rw [hcn] at HBK
                obtain ⟨en, hen⟩ : ∃ c, (wts2.map fun x => decide (x ≤ till)) = c := ⟨_, rfl⟩
                rw [hen] at HER
                have q0 : wr.cell? ⟨n1, 0, none⟩ = some (.int .i64 till) := blk_cell HBK.out 0
                have q1 : wr.cell? ⟨n1, 1, none⟩ = some (.int .i64 lst) := blk_cell HBK.out 1
                have q2 : wr.cell? ⟨n1, 2, none⟩ = some (.int .i64 pl) := blk_cell HBK.out 2
                have q3 : wr.cell? ⟨n1, 3, none⟩ = some (.int .i64 cn) := blk_cell HBK.out 3
                have q4 : wr.cell? ⟨n1, 4, none⟩ = some (.slice A8 n8 c8) := blk_cell HBK.out 4
                have hmk : markOf σ2 wts2 = ⟨till, lst, pl, cn, en⟩ := by
                  unfold markOf
                  rw [HTL.out, HLS.out, HPL.out, hcn, hen]
                have HMK := Lib.hid hmk
                have hoff : Off wq (fun k => n1 ≤ k) [3, 34, 4, 47, 73] := fun k h hl => by have := HWN.out; omega
                have s6 : Kd.S k34 34 wr w.heap.size (fun k => True ∧ ¬ n1 ≤ k) u6 out :=
                  Kd.S_kept (Kd.S_mono (Kd.S_bound HM2.out.s6) (fun k hk => ⟨trivial, by have := HWN.out; have := hk.2.2.1; omega⟩)) HKW.out.kept (fun k h => h.2)
                have hbl : Below w.heap.size w wr := HM2.out.bl.trans (HKW.out.toBelowB HM2.out.bl.size (fun k h => by omega))
                have hpm : k34.M wr w.heap.size (fun k => n1 ≤ k) ⟨till, lst, pl, cn, en⟩ [.int .i64 till, .int .i64 lst, .int .i64 pl, .int .i64 cn, .slice A8 n8 c8] :=
                  k34_mkM _ _ _ ⟨till, lst, pl, cn, en⟩ (Kd.R_mono (Kd.R_lower (Kd.R_bound HER.out) (by omega)) (fun k hk => hk.2.1))
                have hlo : (out.length + 1) * 56 ≤ 140737488355328 := by omega
                have hown : ∀ k, n1 ≤ k → True ∧ some k ≠ u6.ownBlock := fun k hk => ⟨trivial, fun h => by
                  have := (Kd.S_bound s6)
                  have h2 := (Kd.S_R s6).1 k h.symm
                  exact h2.2 hk⟩
                have HS6 := Lib.hid s6
                have HBL := Lib.hid hbl
                have HPM := Lib.hid hpm
                have HOWN := Lib.hid hown
                have HOFF := Lib.hid hoff
                clear hcn hen hmk hoff s6 hbl hpm hown hn8 hrx
                go_wp2_with (first | ((with_reducible refine gate_builtin (b := .append) (xs := #[.tmp 159, .tmp 161]) rfl ?_); at_builtin; refine Kd.S_append k34 (w0 := w) w.heap.size rfl (.tmp 159) (.tmp 161) 24 34 (.agg #[(.int .i64 0), (.int .i64 0), (.int .i64 0), (.int .i64 0), (.slice none 0 0)]) 56 rfl Try.underlying24 info34 rfl (by decide) (by decide) u6 out ⟨till, lst, pl, cn, en⟩ [.int .i64 till, .int .i64 lst, .int .i64 pl, .int .i64 cn, .slice A8 n8 c8] (fun _ => True) (fun k => n1 ≤ k) rfl rfl HPM.out HOWN.out (fun _ _ => trivial) HS6.out HBL.out HBL.out.size hlo ?_; intro v9 w9 hs9 hb9 hg9 hn9))
                go_roundg (l0.length - (j + 1))
                case measure => have := HKQ.out; omega
                case rel =>
                  have kg := Kp.of_grown hg9
                  have hof : ∀ ts, 34 ∉ ts → Off wr (fun k => u6.ownBlock = some k) ts := fun ts hts k hk _ => by
                    obtain ⟨cells, hc⟩ := Kd.S_typed HS6.out k hk
                    exact ⟨cells, 34, hc, hts⟩
                  refine ⟨j + 1, σ2, wts2, out ++ [markOf σ2 wts2], N + weight a, by go_num, by omega, ⟨by omega, ?_, ?_, ?_, ?_, ?_⟩, ⟨keepSp (keepSp HM2.out.sp HKW.out (off_mono HOFF.out (by decide))) kg (hof _ (by decide)), keepR (keepR HM2.out.r5 HKW.out (off_mono HOFF.out (by decide))) kg (hof _ (by decide)), by rw [HMK.out]; exact hs9, hb9⟩⟩
                  · have e : prevSet l0 (j + 1) = (a.f0 == 4) := by
                      simp only [prevSet]
                      rw [show ((j + 1 : Nat) : Int) - 1 = (j : Int) by omega, HA.out]
                      simp
                    rw [e]; exact HI.out
                  · have h := HH.out.bd
                    rw [HDR.out] at h
                    simp only [tot, List.map_cons, List.sum_cons] at h ⊢
                    omega
                  · rw [HH.out.res, HP.out, HDR.out]
                    have e : prevSet l0 (j + 1) = (a.f0 == 4) := by
                      simp only [prevSet]
                      rw [show ((j + 1 : Nat) : Int) - 1 = (j : Int) by omega, HA.out]
                      simp
                    rw [e]
                    simp only [run, HO1.out, HO2.out, HO3.out, if_true, Option.map_map]
                    congr 1
                    funext r
                    simp
                  · have h1 := act_len p a σ wts
                    rw [HO3.out] at h1
                    have h2 := HH.out.wl
                    simp only [weight]
                    omega
                  · have h2 := HH.out.ol
                    simp only [weight, List.length_append, List.length_singleton]
                    omega
    · go_wp2_with fail
      go_ret2
      have hje : l0.drop j = [] := List.drop_of_length_le (by omega)
      have hres : run true l0 w0 [] = some out := by
        rw [HH.out.res, hje]
        simp [run]
      refine ⟨u6, ?_, ?_, HM.out.bl⟩
      · rw [hres]; rfl
      · rw [hres]; exact HM.out.s6
end Go.Proofs.Ytimakagmhikhfaa.Rm
