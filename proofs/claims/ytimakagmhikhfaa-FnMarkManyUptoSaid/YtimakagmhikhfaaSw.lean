/- The water mark by its definition, as the specification's program keeps it. -/
import Derived.Test.YtimakagmhikhfaaMs
import Derived.Test.YtimakagmhikhfaaWQPut
namespace Go.Proofs.Ytimakagmhikhfaa.Sw
open Go.RowKit Go.Proofs.YtimakagmhikhfaaW.PrintWords Go.Proofs.YtimakagmhikhfaaW.PrintLast Go.Proofs.YtimakagmhikhfaaW.PrintMore Go.Proofs.Ytimakagmhikhfaa.M Go.Proofs.Ytimakagmhikhfaa.Mk Go.Proofs.Ytimakagmhikhfaa.Fr Go.Proofs.Ytimakagmhikhfaa.Hp Go.Proofs.Ytimakagmhikhfaa.Pr
set_option linter.unusedVariables false
set_option linter.unusedSimpArgs false
def enc (l : List (Int × Int)) : List S73 := l.map fun p => ⟨p.1, p.2⟩
theorem enc_length (l : List (Int × Int)) : (enc l).length = l.length := by simp [enc]
/-- The water in memory. -/
def Sp (w : World) (wb B : Nat) (σ : Wat) : Prop :=
  B ≤ wb ∧ ∃ v, w.heap[wb]? = some (.cells #[.int .i64 σ.till, .int .i64 σ.last, v] 47 (0, 0)) ∧ k73.Q 73 w B (fun _ => True) v (enc σ.pend)
/-- Blocks of the water: its own, and its rows. -/
def SS (w : World) (B : Nat) (k : Nat) : Prop := B ≤ k ∧ ∃ cs t, w.heap[k]? = some (.cells cs t (0, 0)) ∧ (t = 47 ∨ t = 73)
theorem KS_trans {w w1 w2 : World} {B : Nat} (h : Kp w w1 (SS w B)) (h2 : Kp w1 w2 (SS w1 B)) : Kp w w2 (SS w B) := by
  refine h.trans h2 (fun k hk => ?_)
  by_cases hlt : k < w.heap.size
  · refine .inl (Classical.byContradiction fun hn => ?_)
    have e := h.k k hlt hn
    obtain ⟨hB, cs, t, hc, ht⟩ := hk
    exact hn ⟨hB, cs, t, by rw [← e]; exact hc, ht⟩
  · exact .inr (by omega)
theorem SS_refl (w : World) (B : Nat) : Kp w w (SS w B) := Kp.refl _ _
theorem SS_wb {w : World} {wb B : Nat} {σ : Wat} (h : Sp w wb B σ) : SS w B wb := by
  obtain ⟨hB, v, h1, _⟩ := h
  exact ⟨hB, _, _, h1, .inl rfl⟩
theorem t47 : ∀ q, q ∈ 73 :: k73.E → q ≠ 47 := by
  intro q hq
  have : q ∈ [73] := hq
  simp at this
  omega
/-- The water behind a write into its own block. -/
theorem Sp.at_ {w : World} {wb B : Nat} {σ : Wat} (h : Sp w wb B σ) : ∃ A c, w.heap[wb]? = some (.cells #[.int .i64 σ.till, .int .i64 σ.last, .slice A σ.pend.length c] 47 (0, 0)) ∧ k73.Q 73 w B (fun _ => True) (.slice A σ.pend.length c) (enc σ.pend) := by
  obtain ⟨hB, v, h1, h2⟩ := h
  obtain ⟨A, c, rfl, _⟩ := Kd.Q_slice h2
  rw [enc_length] at h1 h2
  exact ⟨A, c, h1, h2⟩
theorem enc_at (l : List (Int × Int)) (j : Nat) (h : j < l.length) : rd_T73 (enc l) (j : Int) = ⟨(l[j]).1, (l[j]).2⟩ := by
  simp [rd_T73, enc, h]
theorem open_calls (w : World) (wb B : Nat) (σ : Wat) (i : Int) (h : Sp w wb B σ) :
    Calls Try.prog 37 #[.pointer (some ⟨wb, 0, none⟩), .int .i64 i] w fun e w' => e = .returned (.bool (isOpen σ.pend i)) ∧ Below w.heap.size w w' := by
  obtain ⟨A, c, h1, h2⟩ := Sp.at_ h
  have hC := (Kd.Q_reads' h2).2.2
  rw [enc_length] at hC
  have hm := Kd.C_max hC
  have c2 : w.cell? ⟨wb, 2, none⟩ = some (.slice A σ.pend.length c) := blk_cell h1 2
  have HC := Lib.hid hC
  clear h h1 h2 hC
  go_enter Try.func37, Try.ntmps37
  go_wp2_with fail
  go_loopw [12] (fun xv wr => ∃ j : Nat, xv = .int .i64 j ∧ j ≤ σ.pend.length ∧ isOpen (σ.pend.drop j) i = isOpen σ.pend i ∧ Below w.heap.size w wr) (fun xv _ => σ.pend.length - (intOf xv).toNat)
  case atStart => exact ⟨0, rfl, Nat.zero_le _, rfl, Below.refl _ _⟩
  case round =>
    obtain ⟨j, rfl, hj, ho, hB⟩ := hrel
    by_cases c1 : j < σ.pend.length
    · obtain ⟨ad, e1, x0, x1⟩ := at_T73 HC.out j (by omega) (by omega)
      rw [enc_at _ _ c1] at x0 x1
      simp only [Int.toNat_natCast] at x0 x1
      subst e1
      obtain ⟨a, n, hdr⟩ : ∃ a n, σ.pend[j] = (a, n) := ⟨_, _, rfl⟩
      rw [hdr] at x0 x1
      replace x0 := (hB.cell (World.block_lt_of_cell? w _ x0)).trans x0
      replace x1 := (hB.cell (World.block_lt_of_cell? w _ x1)).trans x1
      have e3 : σ.pend.drop j = (a, n) :: σ.pend.drop (j + 1) := by rw [← hdr]; exact List.drop_eq_getElem_cons c1
      rw [e3] at ho
      have HO := Lib.hid ho
      have HB := Lib.hid hB
      clear ho hB hdr e3
      by_cases c3 : a = i
      · subst c3
        go_wp2_with fail
        go_ret
        have ho := HO.out
        have e5 : isOpen ((a, n) :: List.drop (j + 1) σ.pend) a = decide (0 < n) := by simp [isOpen, cnt]
        rw [e5] at ho
        exact ⟨by rw [← ho]; rfl, by repeat (first | (with_reducible first | exact HB.out | apply below_alloc | apply below_drew1) | exact HB.out)⟩
      · have d3 : (a == i) = false := by simpa using c3
        go_wp2_with fail
        go_roundw
        case rel =>
          refine ⟨j + 1, by go_num, by omega, ?_, by repeat (first | (with_reducible first | exact HB.out | apply below_alloc | apply below_drew1) | exact HB.out)⟩
          rw [← HO.out]
          simp [isOpen, cnt, c3]
        case measure => simp [intOf]; omega
    · go_wp2_with fail
      go_ret
      have e : j = σ.pend.length := by omega
      subst e
      rw [List.drop_length] at ho
      refine ⟨?_, hB⟩
      rw [← ho]
      rfl
theorem ins_same (i d : Int) : ∀ (l : List (Int × Int)) (k : Nat) (hk : k < l.length), (∀ j, (h : j < k) → (l[j]'(by omega)).1 < i) → (l[k]).1 = i → ins i d l = l.set k (i, (l[k]).2 + d)
  | [], k, hk, _, _ => absurd hk (by simp)
  | (j, c) :: t, 0, _, _, he => by
    simp only [List.getElem_cons_zero] at he
    subst he
    simp [ins]
  | (j, c) :: t, k + 1, hk, hl, he => by
    have h0 : j < i := hl 0 (by omega)
    simp only [List.getElem_cons_succ] at he
    simp only [ins, if_pos h0, List.getElem_cons_succ, List.set_cons_succ]
    rw [ins_same i d t k (by simpa using hk) (fun m hm => hl (m + 1) (by omega)) he]
theorem ins_new (i d : Int) : ∀ (l : List (Int × Int)) (k : Nat) (hk : k ≤ l.length), (∀ j, (h : j < k) → (l[j]'(by omega)).1 < i) → (∀ h : k < l.length, i < (l[k]).1) → ins i d l = l.take k ++ (i, d) :: l.drop k
  | [], k, hk, _, _ => by
    have : k = 0 := by simpa using hk
    subst this
    rfl
  | (j, c) :: t, 0, _, _, he => by
    have h0 := he (by simp)
    simp only [List.getElem_cons_zero] at h0
    simp only [ins, if_neg (show ¬ j < i by omega), if_neg (show ¬ j = i by omega)]
    rfl
  | (j, c) :: t, k + 1, hk, hl, he => by
    have h0 : j < i := hl 0 (by omega)
    simp only [ins, if_pos h0]
    rw [ins_new i d t k (by simpa using hk) (fun m hm => hl (m + 1) (by omega)) (fun h => he (by simpa using h))]
    rfl
theorem enc_set (l : List (Int × Int)) (k : Nat) (p : Int × Int) : enc (l.set k p) = (enc l).set k ⟨p.1, p.2⟩ := by simp [enc, List.map_set]
theorem info73 : (Try.prog.info? 73).map (fun i => (i.zero, i.size, i.bytes)) = some (some (.agg #[.int .i64 0, .int .i64 0]), 2, 16) := by kernel_rfl
theorem Sp.cells {w : World} {wb : Nat} {σ : Wat} {A : Option Addr} {c : Nat} (h1 : w.heap[wb]? = some (.cells #[.int .i64 σ.till, .int .i64 σ.last, .slice A σ.pend.length c] 47 (0, 0))) :
    w.cell? ⟨wb, 0, none⟩ = some (.int .i64 σ.till) ∧ w.cell? ⟨wb, 1, none⟩ = some (.int .i64 σ.last) ∧ w.cell? ⟨wb, 2, none⟩ = some (.slice A σ.pend.length c) ∧ w.frozen? ⟨wb, 0, none⟩ = false ∧ w.frozen? ⟨wb, 1, none⟩ = false ∧ w.frozen? ⟨wb, 2, none⟩ = false :=
  ⟨blk_cell h1 0, blk_cell h1 1, blk_cell h1 2, blk_frozen h1 0, blk_frozen h1 1, blk_frozen h1 2⟩
theorem enc_cons (a c : Int) (t : List (Int × Int)) : enc ((a, c) :: t) = ⟨a, c⟩ :: enc t := rfl
/-- The first is taken off. -/
theorem Sp.pop {w : World} {wb B : Nat} {u last j n : Int} {t : List (Int × Int)} {A : Option Addr} {cc : Nat} (hB : B ≤ wb) (h1 : w.heap[wb]? = some (.cells #[.int .i64 u, .int .i64 last, .slice A (t.length + 1) cc] 47 (0, 0))) (h2 : k73.Q 73 w B (fun _ => True) (.slice A (t.length + 1) cc) (enc ((j, n) :: t))) :
    Sp ((w.setCell ⟨wb, 0, none⟩ (.int .i64 j)).setCell ⟨wb, 2, none⟩ (.slice (if cc = 1 then A else A.map (·.add 2)) t.length (cc - 1))) wb B ⟨j, last, t⟩ ∧ Kp w ((w.setCell ⟨wb, 0, none⟩ (.int .i64 j)).setCell ⟨wb, 2, none⟩ (.slice (if cc = 1 then A else A.map (·.add 2)) t.length (cc - 1))) (SS w B) := by
  have hS : SS w B wb := ⟨hB, _, _, h1, .inl rfl⟩
  have hq := Kd.Q_drop h2 (k := 1) (by rw [enc_length]; simp)
  rw [enc_cons, List.drop_succ_cons, List.drop_zero] at hq
  have p1 := blk_put h1 0 (.int .i64 j) rfl
  have p2 := blk_put p1 2 (.slice (if cc = 1 then A else A.map (·.add 2)) t.length (cc - 1)) rfl
  have q1 := Kd.Q_set hq h1 t47 0 (.int .i64 j)
  have q2 := Kd.Q_set q1 p1 t47 2 (.slice (if cc = 1 then A else A.map (·.add 2)) t.length (cc - 1))
  exact ⟨⟨hB, _, p2, q2⟩, ((Kp.refl w _).setCell (.inl hS) _).setCell (.inl hS) _⟩
/-- A new row stored. -/
theorem Sp.fresh {w w4 : World} {wb B : Nat} {σ : Wat} {A4 : Option Addr} {c4 n4 : Nat} {p : List (Int × Int)} (hB : B ≤ w.heap.size) (h : Sp w wb B σ) (hb : Below w.heap.size w w4) (hr : k73.R 73 w4 w.heap.size (fun _ => True) (.slice A4 n4 c4) (enc p)) :
    Sp (w4.setCell ⟨wb, 2, none⟩ (.slice A4 n4 c4)) wb B { σ with pend := p } ∧ Kp w (w4.setCell ⟨wb, 2, none⟩ (.slice A4 n4 c4)) (SS w B) := by
  have hS := SS_wb h
  obtain ⟨hB2, v, h1, h2⟩ := h
  have g1 := (hb.block _ (blk_lt h1)).trans h1
  have p1 := blk_put g1 2 (.slice A4 n4 c4) rfl
  exact ⟨⟨hB2, _, p1, Kd.Q_set (Kd.Q_lower (Kd.Q_of_R hr) hB) g1 t47 2 _⟩, (Kp.of_below hb _).setCell (.inl hS) _⟩
def AddPost (w : World) (wb B : Nat) (σ : Wat) (e : Ending) (w' : World) : Prop := e = .returned (.tuple #[]) ∧ Sp w' wb B σ ∧ Kp w w' (SS w B)
set_option maxHeartbeats 4000000 in
theorem add_calls (w : World) (wb B : Nat) (σ : Wat) (i d N : Int) (h : Sp w wb B σ) (hB : B ≤ w.heap.size) (hf : Fine σ.till σ.pend N) (hN : N ≤ 4611686018427387904) (hd : -1 ≤ d ∧ d ≤ 1) (hl : σ.pend.length ≤ 1099511627776) :
    Calls Try.prog 36 #[.pointer (some ⟨wb, 0, none⟩), .int .i64 i, .int .i64 d] w (AddPost w wb B (σ.add i d)) := by
  obtain ⟨hd1, hd2⟩ := hd
  obtain ⟨A, c, h1, h2⟩ := Sp.at_ h
  have hC := (Kd.Q_reads' h2).2.2
  have hcap := (Kd.Q_reads' h2).2.1
  rw [enc_length] at hC
  obtain ⟨c0, c1, c2, f0, f1, f2⟩ := Sp.cells h1
  have HC := Lib.hid hC
  have H1 := Lib.hid h1
  have H2 := Lib.hid h2
  have HS := Lib.hid h
  have HF := Lib.hid hf
  clear h h1 h2 hC hf
  go_enter Try.func36, Try.ntmps36
  go_wp2_with fail
  go_loopw [6] (fun xv wr => ∃ k : Nat, xv = .int .i64 k ∧ k ≤ σ.pend.length ∧ (∀ j, (h : j < k) → (hj : j < σ.pend.length) → (σ.pend[j]).1 < i) ∧ w = wr) (fun xv _ => σ.pend.length - (intOf xv).toNat)
  case atStart => exact ⟨0, rfl, Nat.zero_le _, fun j h => absurd h (Nat.not_lt_zero _), rfl⟩
  case round =>
    obtain ⟨k, rfl, hk, hall, rfl⟩ := hrel
    have HALL := Lib.hid hall
    clear hall
    by_cases k1 : k < σ.pend.length
    · obtain ⟨ad, e1, x0, x1⟩ := at_T73 HC.out k (by omega) (by omega)
      rw [enc_at _ _ k1] at x0 x1
      simp only [Int.toNat_natCast] at x0 x1
      obtain ⟨a, n, hdr⟩ : ∃ a n, σ.pend[k] = (a, n) := ⟨_, _, rfl⟩
      rw [hdr] at x0 x1
      have HD := Lib.hid hdr
      subst e1
      clear hdr
      simp only [] at x0 x1
      by_cases k2 : a < i
      · have d2 : decide (a < i) = true := decide_eq_true k2
        go_wp2_with fail
        go_roundw
        case rel =>
          refine ⟨k + 1, by go_num, by omega, fun j h hj => ?_, trivial⟩
          by_cases e : j = k
          · subst e; rw [HD.out]; exact k2
          · exact HALL.out j (by omega) hj
        case measure => simp [intOf]; omega
      · have d2 : decide (a < i) = false := decide_eq_false k2
        by_cases k3 : a = i
        · have d3 : (a == i) = true := by simpa using k3
          obtain ⟨hsp0, hkp0⟩ : ∃ g o, ad = ⟨g, o, none⟩ ∧ B ≤ g ∧ ∃ cells, w.heap[g]? = some (.cells cells 73 (0, 0)) := by
            obtain ⟨g, o, cap, ev, hbg, _, cells, hcells⟩ := Kd.Q_form H2.out (by rw [enc_length]; omega)
            injection ev with ev
            injection ev with ev
            exact ⟨g, o, ev, hbg, cells, hcells⟩
          obtain ⟨o, rfl, hbg, cells, hcells⟩ := hkp0
          have z0 : w.cell? ⟨hsp0, o + k * 2, none⟩ = some (.int .i64 a) := by rw [add_at] at x0; exact x0
          have z1 : w.cell? ⟨hsp0, o + k * 2 + 1, none⟩ = some (.int .i64 n) := by rw [add_at] at x1; exact x1
          clear x0 x1
          subst k3
          have hab := HF.out.above (a, n) (by rw [← HD.out]; exact List.getElem_mem _)
          simp only [] at hab
          obtain ⟨hab1, hab2, hab3, hab4⟩ := hab
          have hfz : ∀ q, w.frozen? ⟨hsp0, q, none⟩ = false := fun q => blk_frozen hcells q
          have hfz1 := hfz (o + k * 2 + 1)
          have hne : wb ≠ hsp0 := by
            rintro rfl
            have := H1.out
            rw [hcells] at this
            injection this with this
            injection this with _ this
            cases this
          have hsp_ : Sp (w.setCell ⟨hsp0, o + k * 2 + 1, none⟩ (.int .i64 (n + d))) wb B { σ with pend := ins a d σ.pend } ∧ Kp w (w.setCell ⟨hsp0, o + k * 2 + 1, none⟩ (.int .i64 (n + d))) (SS w B) := by
            obtain ⟨cl, hcl, hM, hcc, _⟩ := Kd.Q_elem H2.out z73 k (by omega) (by omega)
            have hr : (enc σ.pend).getD (k : Int).toNat z73 = ⟨a, n⟩ := by
              have h := enc_at σ.pend k k1
              rw [HD.out] at h
              exact h
            rw [hr] at hM
            have hcle := k73_openM hM
            subst hcle
            have hs := (Kd.Q_seg H2.out (k : Int) (by omega) (by omega) (j := 1) (seg := [.int .i64 (n + d)]) hcl hcc (by simp; decide) (x' := ⟨a, n + d⟩) (okp := fun q => q ≠ hsp0) (k73_mkM _ _ _ ⟨a, n + d⟩) (fun q hq => ⟨trivial, hq⟩)).1
            have e1 : w.setCells hsp0 (o + (k : Int).toNat * k73.sz + 1) [.int .i64 (n + d)] = w.setCell ⟨hsp0, o + k * 2 + 1, none⟩ (.int .i64 (n + d)) := rfl
            rw [e1] at hs
            have e2 : (enc σ.pend).set (k : Int).toNat ⟨a, n + d⟩ = enc (ins a d σ.pend) := by
              rw [ins_same a d σ.pend k k1 (fun j h => HALL.out j h (by omega)) (by rw [HD.out]), enc_set, HD.out]
              rfl
            rw [e2] at hs
            exact ⟨⟨HS.out.1, _, blk_far H1.out hne _, hs⟩, (Kp.refl w _).setCell (.inl ⟨hbg, _, _, hcells, .inr rfl⟩) _⟩
          obtain ⟨hsp, hkp⟩ := hsp_
          go_wp2_with fail
          have HSP := Lib.hid hsp
          have HKP := Lib.hid hkp
          clear hsp hkp
          go_loopg [] (ins a d σ.pend).length (fun kq wr => ∃ u p, p.length = kq ∧ Sp wr wb B ⟨u, σ.last, p⟩ ∧ popz u p = popz σ.till (ins a d σ.pend) ∧ p.length ≤ 1099511627777 ∧ Kp w wr (SS w B))
          case atStart => exact ⟨σ.till, _, rfl, HSP.out, rfl, Nat.le_trans (Po.ins_length _ _ _) (by omega), HKP.out⟩
          case round =>
            obtain ⟨u, p, hpk, hS2, hpz, hpl, hK2⟩ := hrel
            obtain ⟨A5, cc, g1, g2⟩ := Sp.at_ hS2
            simp only [] at g1 g2
            have g3 := (Kd.Q_reads' g2).2.2
            have g4 := (Kd.Q_reads' g2).2.1
            rw [enc_length] at g3
            obtain ⟨e0, e1, e2, f0', f1', f2'⟩ := Sp.cells (σ := ⟨u, σ.last, p⟩) g1
            have hB2 := hS2.1
            cases p with
            | nil =>
              simp only [List.length_nil] at e2
              have HS2 := Lib.hid hS2
              have HPZ := Lib.hid hpz
              clear hS2 hpz g1 g2 g3 c2
              go_wp2_with fail
              go_end0
              refine ⟨rfl, ?_, hK2⟩
              have e := HPZ.out
              simp only [popz] at e
              simp only [Wat.add, ← e]
              exact HS2.out
            | cons q t =>
              obtain ⟨j, m⟩ := q
              obtain ⟨ad5, ea, y0, y1⟩ := at_T73 g3 0 (by omega) (by simp)
              subst ea
              have hj : rd_T73 (enc ((j, m) :: t)) 0 = ⟨j, m⟩ := rfl
              rw [hj] at y0 y1
              have ez : ad5.add 0 = ad5 := by cases ad5; rfl
              simp only [Int.toNat_zero, Nat.zero_mul, ez, List.length_cons] at y0 y1 e2 g1 g2
              clear ez
              simp only [List.length_cons] at hpl
              have HS2 := Lib.hid hS2
              have HPZ := Lib.hid hpz
              have G1 := Lib.hid g1
              have G2 := Lib.hid g2
              simp only [List.length_cons] at g4
              clear hS2 hpz g1 g2 g3 c2 hj
              by_cases m0 : m = 0
              · subst m0
                have hpop := Sp.pop hB2 G1.out G2.out
                have HPOP := Lib.hid hpop
                clear hpop
                have hpz2 : popz j t = popz σ.till (ins a d σ.pend) := by
                  have e := HPZ.out
                  simpa [popz] using e
                have HPZ2 := Lib.hid hpz2
                clear hpz2
                have hfz : wr.frozen? ⟨wb, 0, none⟩ = false := f0'
                by_cases cc1 : cc = 1
                · subst cc1
                  obtain rfl : t = [] := List.eq_nil_of_length_eq_zero (by omega)
                  go_wp2_with fail
                  go_roundg 0
                  case measure => simp at hpk; omega
                  case rel =>
                    have h := HPOP.out
                    simp only [if_true, List.length_nil, Nat.sub_self] at h
                    exact ⟨j, [], rfl, h.1, HPZ2.out, by simp, KS_trans hK2 h.2⟩
                · go_wp2_with fail
                  go_roundg t.length
                  case measure => simp at hpk; omega
                  case rel =>
                    have h := HPOP.out
                    rw [if_neg cc1] at h
                    exact ⟨j, t, rfl, h.1, HPZ2.out, by omega, KS_trans hK2 h.2⟩
              · have dm : (m == 0) = false := by simpa using m0
                go_wp2_with fail
                go_end0
                refine ⟨rfl, ?_, hK2⟩
                have e := HPZ.out
                simp only [popz, if_neg m0] at e
                simp only [Wat.add, ← e]
                exact HS2.out
        · have d3 : (a == i) = false := by simpa using k3
          have hck : c ≠ k := by omega
          have hins : ins i d σ.pend = σ.pend.take k ++ (i, d) :: σ.pend.drop k := ins_new i d σ.pend k hk (fun j h => HALL.out j h (by omega)) (fun h => by rw [HD.out]; simp only []; omega)
          have hbk : (σ.pend.length + 3) * 16 ≤ 140737488355328 := by omega
          have hrd : ∀ w1, Below w.heap.size w w1 → k73.C w1 (some ad) k (enc (σ.pend.take k)) := fun w1 hb => by
            have h := (Kd.Q_reads' (Kd.Q_below (Kd.Q_take H2.out (m := k) (by rw [enc_length]; exact hk)) hb)).2.2
            have e : (enc σ.pend).take k = enc (σ.pend.take k) := by simp [enc]
            rw [e, enc_length, List.length_take, Nat.min_eq_left hk] at h
            exact h
          have hrd2 : ∀ w1, Below w.heap.size w w1 → k73.C w1 (if c = k then (some ad) else ((some ad)).map (·.add (k * 2))) (σ.pend.length - k) (enc (σ.pend.drop k)) := fun w1 hb => by
            have h := (Kd.Q_reads' (Kd.Q_below (Kd.Q_drop H2.out (k := k) (by rw [enc_length]; exact hk)) hb)).2.2
            have e : (enc σ.pend).drop k = enc (σ.pend.drop k) := by simp [enc]
            rw [e, enc_length, List.length_drop] at h
            exact h
          have HRD := Lib.hid hrd
          have HRD2 := Lib.hid hrd2
          have lwb : wb < w.heap.size := blk_lt H1.out
          clear hrd hrd2
          go_wp2_with (first | ((with_reducible refine gate_dst (N := 60) rfl ?_); refine Kd.R_lit k73 (w0 := w) w.heap.size 73 ?hg (N := 60) ?hd (xs := []) (inner := []) (ok := fun _ => True) (okp := fun _ => True) ?hr ?hp (fun _ hk => hk) trivial (Below.refl _ _) (Nat.le_refl _) (by simp) ?_; (case hd => rfl); (case hg => rfl); (case hr => first | (go_simp; done) | (go_simp; rfl)); (case hp => exact (Reps.none _ _)); intro v1 w1 hr1 hb1 hg1 hn1; have c2' := (hb1.cell (World.block_lt_of_cell? w _ c2)).trans c2; clear hg1 hn1) | ((with_reducible refine gate_builtin (b := .append) (xs := #[.tmp 60, .tmp 66]) rfl ?_); at_builtin; refine Kd.R_append_rows k73 (Rr := k73.K w1) (w0 := w) w.heap.size rfl (.tmp 60) (.tmp 66) 45 73 (.agg #[.int .i64 0, .int .i64 0]) 16 rfl Try.underlying45 info73 rfl (by decide) (by decide) v1 [] (enc (σ.pend.take k)) (some ad) k c (fun _ => True) (fun _ => False) rfl rfl hr1 (HRD.out _ hb1) (fun x cs hx => by rw [k73_open hx]; exact k73_mkM _ _ _ x) (fun _ h => h.elim) (fun _ _ => trivial) hb1 hb1.size (by simp; omega) ?_; intro v2 w2 hr2 hb2 hg2 hn2; clear hr1 hg2 hn2) | ((with_reducible refine gate_builtin (b := .append) (xs := #[.tmp 68, .tmp 72]) rfl ?_); at_builtin; refine Kd.R_append k73 (w0 := w) w.heap.size rfl (.tmp 68) (.tmp 72) 45 73 (.agg #[.int .i64 0, .int .i64 0]) 16 rfl Try.underlying45 info73 rfl (by decide) (by decide) v2 ([] ++ enc (σ.pend.take k)) ⟨i, d⟩ [.int .i64 i, .int .i64 d] (fun _ => True) (fun _ => False) rfl rfl (k73_mkM _ _ _ ⟨i, d⟩) (fun _ h => h.elim) (fun _ _ => trivial) hr2 hb2 hb2.size (by simp [enc_length]; omega) ?_; intro v3 w3 hr3 hb3 hg3 hn3; have c2'' := (hb3.cell (World.block_lt_of_cell? w _ c2)).trans c2; clear hr2 hg3 hn3) | ((with_reducible refine gate_builtin (b := .append) (xs := #[.tmp 75, .tmp 81]) rfl ?_); at_builtin; refine Kd.R_append_rows k73 (Rr := k73.K w3) (w0 := w) w.heap.size rfl (.tmp 75) (.tmp 81) 45 73 (.agg #[.int .i64 0, .int .i64 0]) 16 rfl Try.underlying45 info73 rfl (by decide) (by decide) v3 ([] ++ enc (σ.pend.take k) ++ [⟨i, d⟩]) (enc (σ.pend.drop k)) (some (ad.add (k * 2))) (σ.pend.length - k) (c - k) (fun _ => True) (fun _ => False) rfl rfl hr3 (by have h := HRD2.out _ hb3; rw [if_neg hck] at h; exact h) (fun x cs hx => by rw [k73_open hx]; exact k73_mkM _ _ _ x) (fun _ h => h.elim) (fun _ _ => trivial) hb3 hb3.size (by simp [enc_length]; omega) ?_; intro v4 w4 hr4 hb4 hg4 hn4; obtain ⟨n4, A4, cc4, rfl⟩ : ∃ n A c, v4 = .slice A n c := (by obtain ⟨A, c, e⟩ := Kd.R_slice hr4; exact ⟨_, A, c, e⟩); have c2z := (hb4.cell (World.block_lt_of_cell? w _ c2)).trans c2; have f2z : w4.frozen? ⟨wb, 2, none⟩ = false := blk_frozen (hb4.block _ lwb |>.trans H1.out) 2; clear hr3 hg4 hn4))
          have hsp_ := Sp.fresh (p := ins i d σ.pend) hB HS.out hb4 (by rw [hins]; have h := hr4; simp only [List.nil_append, List.append_assoc] at h ⊢; simpa [enc] using h)
          obtain ⟨hsp, hkp⟩ := hsp_
          clear hr4
          have HSP := Lib.hid hsp
          have HKP := Lib.hid hkp
          clear hsp hkp
          go_loopg [] (ins i d σ.pend).length (fun kq wr => ∃ u p, p.length = kq ∧ Sp wr wb B ⟨u, σ.last, p⟩ ∧ popz u p = popz σ.till (ins i d σ.pend) ∧ p.length ≤ 1099511627777 ∧ Kp w wr (SS w B))
          case atStart => exact ⟨σ.till, _, rfl, HSP.out, rfl, Nat.le_trans (Po.ins_length _ _ _) (by omega), HKP.out⟩
          case round =>
            obtain ⟨u, p, hpk, hS2, hpz, hpl, hK2⟩ := hrel
            obtain ⟨A5, cc, g1, g2⟩ := Sp.at_ hS2
            simp only [] at g1 g2
            have g3 := (Kd.Q_reads' g2).2.2
            have g4 := (Kd.Q_reads' g2).2.1
            rw [enc_length] at g3
            obtain ⟨e0, e1, e2, f0', f1', f2'⟩ := Sp.cells (σ := ⟨u, σ.last, p⟩) g1
            have hB2 := hS2.1
            cases p with
            | nil =>
              simp only [List.length_nil] at e2
              have HS2 := Lib.hid hS2
              have HPZ := Lib.hid hpz
              clear hS2 hpz g1 g2 g3 c2
              go_wp2_with fail
              go_end0
              refine ⟨rfl, ?_, hK2⟩
              have e := HPZ.out
              simp only [popz] at e
              simp only [Wat.add, ← e]
              exact HS2.out
            | cons q t =>
              obtain ⟨j, m⟩ := q
              obtain ⟨ad5, ea, y0, y1⟩ := at_T73 g3 0 (by omega) (by simp)
              subst ea
              have hj : rd_T73 (enc ((j, m) :: t)) 0 = ⟨j, m⟩ := rfl
              rw [hj] at y0 y1
              have ez : ad5.add 0 = ad5 := by cases ad5; rfl
              simp only [Int.toNat_zero, Nat.zero_mul, ez, List.length_cons] at y0 y1 e2 g1 g2
              clear ez
              simp only [List.length_cons] at hpl
              have HS2 := Lib.hid hS2
              have HPZ := Lib.hid hpz
              have G1 := Lib.hid g1
              have G2 := Lib.hid g2
              simp only [List.length_cons] at g4
              clear hS2 hpz g1 g2 g3 c2 hj
              by_cases m0 : m = 0
              · subst m0
                have hpop := Sp.pop hB2 G1.out G2.out
                have HPOP := Lib.hid hpop
                clear hpop
                have hpz2 : popz j t = popz σ.till (ins i d σ.pend) := by
                  have e := HPZ.out
                  simpa [popz] using e
                have HPZ2 := Lib.hid hpz2
                clear hpz2
                have hfz : wr.frozen? ⟨wb, 0, none⟩ = false := f0'
                by_cases cc1 : cc = 1
                · subst cc1
                  obtain rfl : t = [] := List.eq_nil_of_length_eq_zero (by omega)
                  go_wp2_with fail
                  go_roundg 0
                  case measure => simp at hpk; omega
                  case rel =>
                    have h := HPOP.out
                    simp only [if_true, List.length_nil, Nat.sub_self] at h
                    exact ⟨j, [], rfl, h.1, HPZ2.out, by simp, KS_trans hK2 h.2⟩
                · go_wp2_with fail
                  go_roundg t.length
                  case measure => simp at hpk; omega
                  case rel =>
                    have h := HPOP.out
                    rw [if_neg cc1] at h
                    exact ⟨j, t, rfl, h.1, HPZ2.out, by omega, KS_trans hK2 h.2⟩
              · have dm : (m == 0) = false := by simpa using m0
                go_wp2_with fail
                go_end0
                refine ⟨rfl, ?_, hK2⟩
                have e := HPZ.out
                simp only [popz, if_neg m0] at e
                simp only [Wat.add, ← e]
                exact HS2.out
    · have hins : ins i d σ.pend = σ.pend.take k ++ (i, d) :: σ.pend.drop k := ins_new i d σ.pend k hk (fun j h => HALL.out j h (by omega)) (fun h => absurd h k1)
      by_cases hck : c = k
      · obtain rfl := hck.symm
        have hbk : (σ.pend.length + 3) * 16 ≤ 140737488355328 := by omega
        have hrd : ∀ w1, Below w.heap.size w w1 → k73.C w1 A k (enc (σ.pend.take k)) := fun w1 hb => by
          have h := (Kd.Q_reads' (Kd.Q_below (Kd.Q_take H2.out (m := k) (by rw [enc_length]; exact hk)) hb)).2.2
          have e : (enc σ.pend).take k = enc (σ.pend.take k) := by simp [enc]
          rw [e, enc_length, List.length_take, Nat.min_eq_left hk] at h
          exact h
        have hrd2 : ∀ w1, Below w.heap.size w w1 → k73.C w1 (if k = k then A else (A).map (·.add (k * 2))) (σ.pend.length - k) (enc (σ.pend.drop k)) := fun w1 hb => by
          have h := (Kd.Q_reads' (Kd.Q_below (Kd.Q_drop H2.out (k := k) (by rw [enc_length]; exact hk)) hb)).2.2
          have e : (enc σ.pend).drop k = enc (σ.pend.drop k) := by simp [enc]
          rw [e, enc_length, List.length_drop] at h
          exact h
        have HRD := Lib.hid hrd
        have HRD2 := Lib.hid hrd2
        have lwb : wb < w.heap.size := blk_lt H1.out
        clear hrd hrd2
        go_wp2_with (first | ((with_reducible refine gate_dst (N := 60) rfl ?_); refine Kd.R_lit k73 (w0 := w) w.heap.size 73 ?hg (N := 60) ?hd (xs := []) (inner := []) (ok := fun _ => True) (okp := fun _ => True) ?hr ?hp (fun _ hk => hk) trivial (Below.refl _ _) (Nat.le_refl _) (by simp) ?_; (case hd => rfl); (case hg => rfl); (case hr => first | (go_simp; done) | (go_simp; rfl)); (case hp => exact (Reps.none _ _)); intro v1 w1 hr1 hb1 hg1 hn1; have c2' := (hb1.cell (World.block_lt_of_cell? w _ c2)).trans c2; clear hg1 hn1) | ((with_reducible refine gate_builtin (b := .append) (xs := #[.tmp 60, .tmp 66]) rfl ?_); at_builtin; refine Kd.R_append_rows k73 (Rr := k73.K w1) (w0 := w) w.heap.size rfl (.tmp 60) (.tmp 66) 45 73 (.agg #[.int .i64 0, .int .i64 0]) 16 rfl Try.underlying45 info73 rfl (by decide) (by decide) v1 [] (enc (σ.pend.take k)) A k k (fun _ => True) (fun _ => False) rfl rfl hr1 (HRD.out _ hb1) (fun x cs hx => by rw [k73_open hx]; exact k73_mkM _ _ _ x) (fun _ h => h.elim) (fun _ _ => trivial) hb1 hb1.size (by simp; omega) ?_; intro v2 w2 hr2 hb2 hg2 hn2; clear hr1 hg2 hn2) | ((with_reducible refine gate_builtin (b := .append) (xs := #[.tmp 68, .tmp 72]) rfl ?_); at_builtin; refine Kd.R_append k73 (w0 := w) w.heap.size rfl (.tmp 68) (.tmp 72) 45 73 (.agg #[.int .i64 0, .int .i64 0]) 16 rfl Try.underlying45 info73 rfl (by decide) (by decide) v2 ([] ++ enc (σ.pend.take k)) ⟨i, d⟩ [.int .i64 i, .int .i64 d] (fun _ => True) (fun _ => False) rfl rfl (k73_mkM _ _ _ ⟨i, d⟩) (fun _ h => h.elim) (fun _ _ => trivial) hr2 hb2 hb2.size (by simp [enc_length]; omega) ?_; intro v3 w3 hr3 hb3 hg3 hn3; have c2'' := (hb3.cell (World.block_lt_of_cell? w _ c2)).trans c2; clear hr2 hg3 hn3) | ((with_reducible refine gate_builtin (b := .append) (xs := #[.tmp 75, .tmp 81]) rfl ?_); at_builtin; refine Kd.R_append_rows k73 (Rr := k73.K w3) (w0 := w) w.heap.size rfl (.tmp 75) (.tmp 81) 45 73 (.agg #[.int .i64 0, .int .i64 0]) 16 rfl Try.underlying45 info73 rfl (by decide) (by decide) v3 ([] ++ enc (σ.pend.take k) ++ [⟨i, d⟩]) (enc (σ.pend.drop k)) A 0 0 (fun _ => True) (fun _ => False) rfl rfl hr3 (by have h := HRD2.out _ hb3; rw [if_pos rfl, show σ.pend.length - k = 0 by omega] at h; exact h) (fun x cs hx => by rw [k73_open hx]; exact k73_mkM _ _ _ x) (fun _ h => h.elim) (fun _ _ => trivial) hb3 hb3.size (by simp [enc_length]; omega) ?_; intro v4 w4 hr4 hb4 hg4 hn4; obtain ⟨n4, A4, cc4, rfl⟩ : ∃ n A c, v4 = .slice A n c := (by obtain ⟨A, c, e⟩ := Kd.R_slice hr4; exact ⟨_, A, c, e⟩); have c2z := (hb4.cell (World.block_lt_of_cell? w _ c2)).trans c2; have f2z : w4.frozen? ⟨wb, 2, none⟩ = false := blk_frozen (hb4.block _ lwb |>.trans H1.out) 2; clear hr3 hg4 hn4))
        have hsp_ := Sp.fresh (p := ins i d σ.pend) hB HS.out hb4 (by rw [hins]; have h := hr4; simp only [List.nil_append, List.append_assoc] at h ⊢; simpa [enc] using h)
        obtain ⟨hsp, hkp⟩ := hsp_
        clear hr4
        have HSP := Lib.hid hsp
        have HKP := Lib.hid hkp
        clear hsp hkp
        go_loopg [] (ins i d σ.pend).length (fun kq wr => ∃ u p, p.length = kq ∧ Sp wr wb B ⟨u, σ.last, p⟩ ∧ popz u p = popz σ.till (ins i d σ.pend) ∧ p.length ≤ 1099511627777 ∧ Kp w wr (SS w B))
        case atStart => exact ⟨σ.till, _, rfl, HSP.out, rfl, Nat.le_trans (Po.ins_length _ _ _) (by omega), HKP.out⟩
        case round =>
          obtain ⟨u, p, hpk, hS2, hpz, hpl, hK2⟩ := hrel
          obtain ⟨A5, cc, g1, g2⟩ := Sp.at_ hS2
          simp only [] at g1 g2
          have g3 := (Kd.Q_reads' g2).2.2
          have g4 := (Kd.Q_reads' g2).2.1
          rw [enc_length] at g3
          obtain ⟨e0, e1, e2, f0', f1', f2'⟩ := Sp.cells (σ := ⟨u, σ.last, p⟩) g1
          have hB2 := hS2.1
          cases p with
          | nil =>
            simp only [List.length_nil] at e2
            have HS2 := Lib.hid hS2
            have HPZ := Lib.hid hpz
            clear hS2 hpz g1 g2 g3 c2
            go_wp2_with fail
            go_end0
            refine ⟨rfl, ?_, hK2⟩
            have e := HPZ.out
            simp only [popz] at e
            simp only [Wat.add, ← e]
            exact HS2.out
          | cons q t =>
            obtain ⟨j, m⟩ := q
            obtain ⟨ad5, ea, y0, y1⟩ := at_T73 g3 0 (by omega) (by simp)
            subst ea
            have hj : rd_T73 (enc ((j, m) :: t)) 0 = ⟨j, m⟩ := rfl
            rw [hj] at y0 y1
            have ez : ad5.add 0 = ad5 := by cases ad5; rfl
            simp only [Int.toNat_zero, Nat.zero_mul, ez, List.length_cons] at y0 y1 e2 g1 g2
            clear ez
            simp only [List.length_cons] at hpl
            have HS2 := Lib.hid hS2
            have HPZ := Lib.hid hpz
            have G1 := Lib.hid g1
            have G2 := Lib.hid g2
            simp only [List.length_cons] at g4
            clear hS2 hpz g1 g2 g3 c2 hj
            by_cases m0 : m = 0
            · subst m0
              have hpop := Sp.pop hB2 G1.out G2.out
              have HPOP := Lib.hid hpop
              clear hpop
              have hpz2 : popz j t = popz σ.till (ins i d σ.pend) := by
                have e := HPZ.out
                simpa [popz] using e
              have HPZ2 := Lib.hid hpz2
              clear hpz2
              have hfz : wr.frozen? ⟨wb, 0, none⟩ = false := f0'
              by_cases cc1 : cc = 1
              · subst cc1
                obtain rfl : t = [] := List.eq_nil_of_length_eq_zero (by omega)
                go_wp2_with fail
                go_roundg 0
                case measure => simp at hpk; omega
                case rel =>
                  have h := HPOP.out
                  simp only [if_true, List.length_nil, Nat.sub_self] at h
                  exact ⟨j, [], rfl, h.1, HPZ2.out, by simp, KS_trans hK2 h.2⟩
              · go_wp2_with fail
                go_roundg t.length
                case measure => simp at hpk; omega
                case rel =>
                  have h := HPOP.out
                  rw [if_neg cc1] at h
                  exact ⟨j, t, rfl, h.1, HPZ2.out, by omega, KS_trans hK2 h.2⟩
            · have dm : (m == 0) = false := by simpa using m0
              go_wp2_with fail
              go_end0
              refine ⟨rfl, ?_, hK2⟩
              have e := HPZ.out
              simp only [popz, if_neg m0] at e
              simp only [Wat.add, ← e]
              exact HS2.out
      · skip
        have hbk : (σ.pend.length + 3) * 16 ≤ 140737488355328 := by omega
        have hrd : ∀ w1, Below w.heap.size w w1 → k73.C w1 A k (enc (σ.pend.take k)) := fun w1 hb => by
          have h := (Kd.Q_reads' (Kd.Q_below (Kd.Q_take H2.out (m := k) (by rw [enc_length]; exact hk)) hb)).2.2
          have e : (enc σ.pend).take k = enc (σ.pend.take k) := by simp [enc]
          rw [e, enc_length, List.length_take, Nat.min_eq_left hk] at h
          exact h
        have hrd2 : ∀ w1, Below w.heap.size w w1 → k73.C w1 (if c = k then A else (A).map (·.add (k * 2))) (σ.pend.length - k) (enc (σ.pend.drop k)) := fun w1 hb => by
          have h := (Kd.Q_reads' (Kd.Q_below (Kd.Q_drop H2.out (k := k) (by rw [enc_length]; exact hk)) hb)).2.2
          have e : (enc σ.pend).drop k = enc (σ.pend.drop k) := by simp [enc]
          rw [e, enc_length, List.length_drop] at h
          exact h
        have HRD := Lib.hid hrd
        have HRD2 := Lib.hid hrd2
        have lwb : wb < w.heap.size := blk_lt H1.out
        clear hrd hrd2
        go_wp2_with (first | ((with_reducible refine gate_dst (N := 60) rfl ?_); refine Kd.R_lit k73 (w0 := w) w.heap.size 73 ?hg (N := 60) ?hd (xs := []) (inner := []) (ok := fun _ => True) (okp := fun _ => True) ?hr ?hp (fun _ hk => hk) trivial (Below.refl _ _) (Nat.le_refl _) (by simp) ?_; (case hd => rfl); (case hg => rfl); (case hr => first | (go_simp; done) | (go_simp; rfl)); (case hp => exact (Reps.none _ _)); intro v1 w1 hr1 hb1 hg1 hn1; have c2' := (hb1.cell (World.block_lt_of_cell? w _ c2)).trans c2; clear hg1 hn1) | ((with_reducible refine gate_builtin (b := .append) (xs := #[.tmp 60, .tmp 66]) rfl ?_); at_builtin; refine Kd.R_append_rows k73 (Rr := k73.K w1) (w0 := w) w.heap.size rfl (.tmp 60) (.tmp 66) 45 73 (.agg #[.int .i64 0, .int .i64 0]) 16 rfl Try.underlying45 info73 rfl (by decide) (by decide) v1 [] (enc (σ.pend.take k)) A k c (fun _ => True) (fun _ => False) rfl rfl hr1 (HRD.out _ hb1) (fun x cs hx => by rw [k73_open hx]; exact k73_mkM _ _ _ x) (fun _ h => h.elim) (fun _ _ => trivial) hb1 hb1.size (by simp; omega) ?_; intro v2 w2 hr2 hb2 hg2 hn2; clear hr1 hg2 hn2) | ((with_reducible refine gate_builtin (b := .append) (xs := #[.tmp 68, .tmp 72]) rfl ?_); at_builtin; refine Kd.R_append k73 (w0 := w) w.heap.size rfl (.tmp 68) (.tmp 72) 45 73 (.agg #[.int .i64 0, .int .i64 0]) 16 rfl Try.underlying45 info73 rfl (by decide) (by decide) v2 ([] ++ enc (σ.pend.take k)) ⟨i, d⟩ [.int .i64 i, .int .i64 d] (fun _ => True) (fun _ => False) rfl rfl (k73_mkM _ _ _ ⟨i, d⟩) (fun _ h => h.elim) (fun _ _ => trivial) hr2 hb2 hb2.size (by simp [enc_length]; omega) ?_; intro v3 w3 hr3 hb3 hg3 hn3; have c2'' := (hb3.cell (World.block_lt_of_cell? w _ c2)).trans c2; clear hr2 hg3 hn3) | ((with_reducible refine gate_builtin (b := .append) (xs := #[.tmp 75, .tmp 81]) rfl ?_); at_builtin; refine Kd.R_append_rows k73 (Rr := k73.K w3) (w0 := w) w.heap.size rfl (.tmp 75) (.tmp 81) 45 73 (.agg #[.int .i64 0, .int .i64 0]) 16 rfl Try.underlying45 info73 rfl (by decide) (by decide) v3 ([] ++ enc (σ.pend.take k) ++ [⟨i, d⟩]) (enc (σ.pend.drop k)) (A.map (·.add (k * 2))) (σ.pend.length - k) (c - k) (fun _ => True) (fun _ => False) rfl rfl hr3 (by have h := HRD2.out _ hb3; rw [if_neg hck] at h; exact h) (fun x cs hx => by rw [k73_open hx]; exact k73_mkM _ _ _ x) (fun _ h => h.elim) (fun _ _ => trivial) hb3 hb3.size (by simp [enc_length]; omega) ?_; intro v4 w4 hr4 hb4 hg4 hn4; obtain ⟨n4, A4, cc4, rfl⟩ : ∃ n A c, v4 = .slice A n c := (by obtain ⟨A, c, e⟩ := Kd.R_slice hr4; exact ⟨_, A, c, e⟩); have c2z := (hb4.cell (World.block_lt_of_cell? w _ c2)).trans c2; have f2z : w4.frozen? ⟨wb, 2, none⟩ = false := blk_frozen (hb4.block _ lwb |>.trans H1.out) 2; clear hr3 hg4 hn4))
        have hsp_ := Sp.fresh (p := ins i d σ.pend) hB HS.out hb4 (by rw [hins]; have h := hr4; simp only [List.nil_append, List.append_assoc] at h ⊢; simpa [enc] using h)
        obtain ⟨hsp, hkp⟩ := hsp_
        clear hr4
        have HSP := Lib.hid hsp
        have HKP := Lib.hid hkp
        clear hsp hkp
        go_loopg [] (ins i d σ.pend).length (fun kq wr => ∃ u p, p.length = kq ∧ Sp wr wb B ⟨u, σ.last, p⟩ ∧ popz u p = popz σ.till (ins i d σ.pend) ∧ p.length ≤ 1099511627777 ∧ Kp w wr (SS w B))
        case atStart => exact ⟨σ.till, _, rfl, HSP.out, rfl, Nat.le_trans (Po.ins_length _ _ _) (by omega), HKP.out⟩
        case round =>
          obtain ⟨u, p, hpk, hS2, hpz, hpl, hK2⟩ := hrel
          obtain ⟨A5, cc, g1, g2⟩ := Sp.at_ hS2
          simp only [] at g1 g2
          have g3 := (Kd.Q_reads' g2).2.2
          have g4 := (Kd.Q_reads' g2).2.1
          rw [enc_length] at g3
          obtain ⟨e0, e1, e2, f0', f1', f2'⟩ := Sp.cells (σ := ⟨u, σ.last, p⟩) g1
          have hB2 := hS2.1
          cases p with
          | nil =>
            simp only [List.length_nil] at e2
            have HS2 := Lib.hid hS2
            have HPZ := Lib.hid hpz
            clear hS2 hpz g1 g2 g3 c2
            go_wp2_with fail
            go_end0
            refine ⟨rfl, ?_, hK2⟩
            have e := HPZ.out
            simp only [popz] at e
            simp only [Wat.add, ← e]
            exact HS2.out
          | cons q t =>
            obtain ⟨j, m⟩ := q
            obtain ⟨ad5, ea, y0, y1⟩ := at_T73 g3 0 (by omega) (by simp)
            subst ea
            have hj : rd_T73 (enc ((j, m) :: t)) 0 = ⟨j, m⟩ := rfl
            rw [hj] at y0 y1
            have ez : ad5.add 0 = ad5 := by cases ad5; rfl
            simp only [Int.toNat_zero, Nat.zero_mul, ez, List.length_cons] at y0 y1 e2 g1 g2
            clear ez
            simp only [List.length_cons] at hpl
            have HS2 := Lib.hid hS2
            have HPZ := Lib.hid hpz
            have G1 := Lib.hid g1
            have G2 := Lib.hid g2
            simp only [List.length_cons] at g4
            clear hS2 hpz g1 g2 g3 c2 hj
            by_cases m0 : m = 0
            · subst m0
              have hpop := Sp.pop hB2 G1.out G2.out
              have HPOP := Lib.hid hpop
              clear hpop
              have hpz2 : popz j t = popz σ.till (ins i d σ.pend) := by
                have e := HPZ.out
                simpa [popz] using e
              have HPZ2 := Lib.hid hpz2
              clear hpz2
              have hfz : wr.frozen? ⟨wb, 0, none⟩ = false := f0'
              by_cases cc1 : cc = 1
              · subst cc1
                obtain rfl : t = [] := List.eq_nil_of_length_eq_zero (by omega)
                go_wp2_with fail
                go_roundg 0
                case measure => simp at hpk; omega
                case rel =>
                  have h := HPOP.out
                  simp only [if_true, List.length_nil, Nat.sub_self] at h
                  exact ⟨j, [], rfl, h.1, HPZ2.out, by simp, KS_trans hK2 h.2⟩
              · go_wp2_with fail
                go_roundg t.length
                case measure => simp at hpk; omega
                case rel =>
                  have h := HPOP.out
                  rw [if_neg cc1] at h
                  exact ⟨j, t, rfl, h.1, HPZ2.out, by omega, KS_trans hK2 h.2⟩
            · have dm : (m == 0) = false := by simpa using m0
              go_wp2_with fail
              go_end0
              refine ⟨rfl, ?_, hK2⟩
              have e := HPZ.out
              simp only [popz, if_neg m0] at e
              simp only [Wat.add, ← e]
              exact HS2.out
end Go.Proofs.Ytimakagmhikhfaa.Sw
