/- From a mark that is set all goes as from 0, higher by it: the plain law. -/
import Derived.Test.YtimakagmhikhfaaMx7
import Derived.Test.YtimakagmhikhfaaPd
namespace Go.Proofs.Ytimakagmhikhfaa.Pure
open Go.RowKit Go.Proofs.Ytimakagmhikhfaa.M Go.Proofs.Ytimakagmhikhfaa.Mk Go.Proofs.Ytimakagmhikhfaa.Sm Go.Proofs.YtimakagmhikhfaaW.PrintWords Go.Proofs.YtimakagmhikhfaaW.PrintLast
set_option linter.unusedVariables false
def shp (b : Int) (p : Int × Int) : Int × Int := (p.1 + b, p.2)
def mv (b : Int) (a : S31) : S31 := ⟨a.f0, wrap64 (a.f1 + b), a.f2.map fun x => wrap64 (x + b)⟩
def Rl (b : Int) (σ τ : Wat) : Prop := τ.till = σ.till + b ∧ τ.pend = σ.pend.map (shp b)
theorem ins_sh (b i d : Int) : ∀ l : List (Int × Int), ins (i + b) d (l.map (shp b)) = (ins i d l).map (shp b)
  | [] => rfl
  | (j, c) :: t => by
    have ih := ins_sh b i d t
    simp only [List.map_cons, shp, ins]
    by_cases h1 : j < i
    · rw [if_pos h1, if_pos (by omega)]
      simp only [List.map_cons]
      exact congrArg _ ih
    · rw [if_neg h1, if_neg (by omega)]
      by_cases h2 : j = i
      · rw [if_pos h2, if_pos (by omega)]
        rfl
      · rw [if_neg h2, if_neg (by omega)]
        rfl
theorem popz_sh (b : Int) : ∀ (l : List (Int × Int)) (u : Int), popz (u + b) (l.map (shp b)) = ((popz u l).1 + b, (popz u l).2.map (shp b))
  | [], u => rfl
  | (j, c) :: t, u => by
    have ih := popz_sh b t j
    simp only [List.map_cons, shp, popz]
    by_cases h : c = 0
    · rw [if_pos h, if_pos h]; exact ih
    · rw [if_neg h, if_neg h]; rfl
theorem cnt_sh (b i : Int) : ∀ l : List (Int × Int), cnt (i + b) (l.map (shp b)) = cnt i l
  | [] => rfl
  | (j, c) :: t => by
    have ih := cnt_sh b i t
    simp only [List.map_cons, shp, cnt]
    by_cases h : j = i
    · rw [if_pos h, if_pos (by omega)]
    · rw [if_neg h, if_neg (by omega)]; exact ih
theorem Rl.add {b : Int} {σ τ : Wat} (h : Rl b σ τ) (i d : Int) : Rl b (σ.add i d) (τ.add (i + b) d) := by
  obtain ⟨h1, h2⟩ := h
  unfold Rl Wat.add
  simp only [h1, h2, ins_sh, popz_sh]
  exact ⟨trivial, trivial⟩
theorem Rl.open_ {b : Int} {σ τ : Wat} (h : Rl b σ τ) (i : Int) : isOpen τ.pend (i + b) = isOpen σ.pend i := by
  unfold isOpen
  rw [h.2, cnt_sh]
theorem Rl.begin_ {b i : Int} {σ τ : Wat} (h : Rl b σ τ) (h1 : (σ.begin_ i).1 = true) (h2 : (τ.begin_ (i + b)).1 = true) : Rl b (σ.begin_ i).2 (τ.begin_ (i + b)).2 := by
  obtain ⟨_, _, e1⟩ := begin_ok h1
  obtain ⟨_, _, e2⟩ := begin_ok h2
  rw [e1, e2]
  exact h.add i 1
theorem Rl.done_ {b i : Int} {σ τ : Wat} (h : Rl b σ τ) (h1 : (σ.done_ i).1 = true) (h2 : (τ.done_ (i + b)).1 = true) : Rl b (σ.done_ i).2 (τ.done_ (i + b)).2 := by
  obtain ⟨_, e1⟩ := done_ok h1
  obtain ⟨_, e2⟩ := done_ok h2
  rw [e1, e2]
  exact h.add i (-1)
theorem wr (b x : Int) (h0 : 0 ≤ b) (h1 : b ≤ 549755813888) (h2 : 0 ≤ x) (h3 : x ≤ most) : wrap64 (x + b) = x + b := by
  unfold most at h3
  unfold wrap64
  omega
theorem headB {x : Int} {t : List Int} {σ : Wat} (h : (Mk.manyB (x :: t) true σ).1 = true) : (σ.begin_ x).1 = true ∧ (Mk.manyB t true (σ.begin_ x).2).1 = true ∧ Mk.manyB (x :: t) true σ = Mk.manyB t true (σ.begin_ x).2 := by
  simp only [Mk.manyB, if_true] at h ⊢
  cases hb : (σ.begin_ x).1 with
  | true => rw [hb] at h; exact ⟨rfl, h, rfl⟩
  | false => rw [hb, manyB_false] at h; cases h
theorem headD {x : Int} {t : List Int} {σ : Wat} (h : (Mk.manyD (x :: t) true σ).1 = true) : (σ.done_ x).1 = true ∧ (Mk.manyD t true (σ.done_ x).2).1 = true ∧ Mk.manyD (x :: t) true σ = Mk.manyD t true (σ.done_ x).2 := by
  simp only [Mk.manyD, if_true] at h ⊢
  cases hb : (σ.done_ x).1 with
  | true => rw [hb] at h; exact ⟨rfl, h, rfl⟩
  | false => rw [hb, manyD_false] at h; cases h
theorem Rl.manyB {b : Int} (h0 : 0 ≤ b) (hb : b ≤ 549755813888) : ∀ (xs : List Int) (σ τ : Wat) (N : Int), Fine σ.till σ.pend N → 0 ≤ N → Rl b σ τ → (manyB xs true σ).1 = true → (manyB (xs.map fun x => wrap64 (x + b)) true τ).1 = true → Rl b (manyB xs true σ).2 (manyB (xs.map fun x => wrap64 (x + b)) true τ).2
  | [], σ, τ, N, hf, hN, h, _, _ => h
  | x :: t, σ, τ, N, hf, hN, h, h1, h2 => by
    obtain ⟨a1, a2, a3⟩ := headB h1
    rw [List.map_cons] at h2 ⊢
    obtain ⟨b1, b2, b3⟩ := headB h2
    rw [a3, b3]
    obtain ⟨c1, c2, _⟩ := begin_ok a1
    have hlo := hf.lo
    rw [wr b x h0 hb (by omega) c2] at b1 b2 ⊢
    exact Rl.manyB h0 hb t _ _ (N + 1) (begin_fine hf hN) (by omega) (h.begin_ a1 b1) a2 b2
theorem Rl.manyD {b : Int} (h0 : 0 ≤ b) (hb : b ≤ 549755813888) : ∀ (xs : List Int) (σ τ : Wat) (N : Int), Fine σ.till σ.pend N → Rl b σ τ → (manyD xs true σ).1 = true → (manyD (xs.map fun x => wrap64 (x + b)) true τ).1 = true → Rl b (manyD xs true σ).2 (manyD (xs.map fun x => wrap64 (x + b)) true τ).2
  | [], σ, τ, N, hf, h, _, _ => h
  | x :: t, σ, τ, N, hf, h, h1, h2 => by
    obtain ⟨a1, a2, a3⟩ := headD h1
    rw [List.map_cons] at h2 ⊢
    obtain ⟨b1, b2, b3⟩ := headD h2
    rw [a3, b3]
    obtain ⟨c1, _⟩ := done_ok a1
    have hin := open_in hf c1
    have hlo := hf.lo
    rw [wr b x h0 hb (by omega) hin.2] at b1 b2 ⊢
    exact Rl.manyD h0 hb t _ _ N (done_fine hf) (h.done_ a1 b1) a2 b2
/-- An act, and the same act higher by b. -/
theorem act_sim {b : Int} (h0 : 0 ≤ b) (hb : b ≤ 549755813888) {p q : Bool} {a : S31} {σ τ : Wat} {ws : List Int} {N : Int} (hi : Inv p σ ws N) (h : Rl b σ τ) (h4 : a.f0 ≠ 4) (h1 : (actOk p a σ ws).1 = true) (h2 : (actOk q (mv b a) τ (ws.map (· + b))).1 = true) :
    Rl b (actOk p a σ ws).2.1 (actOk q (mv b a) τ (ws.map (· + b))).2.1 ∧ (actOk q (mv b a) τ (ws.map (· + b))).2.2 = (actOk p a σ ws).2.2.map (· + b) := by
  have hlo := hi.fine.lo
  have hml : ((mv b a).f2.length : Int) = (a.f2.length : Int) := by simp [mv]
  unfold actOk at h1 h2 ⊢
  rw [hml] at h2 ⊢
  simp only [show (mv b a).f0 = a.f0 from rfl] at h2 ⊢
  by_cases e0 : a.f0 = 0
  · rw [if_pos e0] at h1 h2 ⊢
    rw [if_pos e0]
    obtain ⟨c1, c2, _⟩ := begin_ok h1
    simp only [mv] at h2 ⊢
    rw [wr b a.f1 h0 hb (by omega) c2] at h2 ⊢
    exact ⟨h.begin_ h1 h2, trivial⟩
  · rw [if_neg e0] at h1 h2 ⊢
    rw [if_neg e0]
    by_cases e1 : a.f0 = 1
    · rw [if_pos e1] at h1 h2 ⊢
      rw [if_pos e1]
      by_cases hl : 0 < (a.f2.length : Int)
      · rw [decide_eq_true hl] at h1 h2 ⊢
        exact ⟨Rl.manyB h0 hb a.f2 σ τ N hi.fine hi.pos h h1 h2, rfl⟩
      · rw [decide_eq_false hl, manyB_false] at h1
        cases h1
    · rw [if_neg e1] at h1 h2 ⊢
      rw [if_neg e1]
      by_cases e2 : a.f0 = 2
      · rw [if_pos e2] at h1 h2 ⊢
        rw [if_pos e2]
        obtain ⟨c1, _⟩ := done_ok h1
        have hin := open_in hi.fine c1
        simp only [mv] at h2 ⊢
        rw [wr b a.f1 h0 hb (by omega) hin.2] at h2 ⊢
        exact ⟨h.done_ h1 h2, trivial⟩
      · rw [if_neg e2] at h1 h2 ⊢
        rw [if_neg e2]
        by_cases e3 : a.f0 = 3
        · rw [if_pos e3] at h1 h2 ⊢
          rw [if_pos e3]
          by_cases hl : 0 < (a.f2.length : Int)
          · rw [decide_eq_true hl] at h1 h2 ⊢
            exact ⟨Rl.manyD h0 hb a.f2 σ τ N hi.fine h h1 h2, rfl⟩
          · rw [decide_eq_false hl, manyD_false] at h1
            cases h1
        · rw [if_neg e3] at h1 h2 ⊢
          rw [if_neg e3]
          rw [if_neg h4] at h1 h2 ⊢
          rw [if_neg h4]
          by_cases e5 : a.f0 = 5
          · rw [if_pos e5] at h1 h2 ⊢
            rw [if_pos e5]
            simp only [Bool.and_eq_true, decide_eq_true_eq] at h1
            simp only [mv]
            rw [wr b a.f1 h0 hb (by omega) h1.2]
            exact ⟨h, by simp⟩
          · rw [if_neg e5] at h1
            cases h1
/-- What the law asks of two marks. -/
structure Sim (b : Int) (m n : S34) : Prop where
  lo : 0 ≤ m.f0
  hi : m.f0 ≤ most
  till : n.f0 = m.f0 + b
  pend : n.f2 = m.f2
  ended : n.f4 = m.f4
theorem sim_of {b : Int} {σ τ : Wat} {ws : List Int} {p : Bool} {N : Int} (hi : Inv p σ ws N) (h : Rl b σ τ) : Sim b (markOf σ ws) (markOf τ (ws.map (· + b))) := by
  refine ⟨hi.fine.lo, hi.fine.hi, h.1, by simp [markOf, h.2], ?_⟩
  simp only [markOf, List.map_map]
  refine List.map_congr_left (fun x _ => ?_)
  simp only [Function.comp, h.1]
  exact decide_eq_decide.2 (by omega)
def Sims (b : Int) : List S34 → List S34 → Prop
  | [], [] => True
  | m :: r, n :: s => Sim b m n ∧ Sims b r s
  | _, _ => False
theorem sims_at {b : Int} : ∀ {r s : List S34}, Sims b r s → s.length = r.length ∧ ∀ i, i < r.length → Sim b (rd_T34 r (i : Int)) (rd_T34 s (i : Int))
  | [], [], _ => ⟨rfl, fun i h => by simp at h⟩
  | m :: r, n :: s, h => by
    obtain ⟨h1, h2⟩ := h
    obtain ⟨i1, i2⟩ := sims_at h2
    refine ⟨by simp [i1], fun i hi => ?_⟩
    cases i with
    | zero => simpa [rd_T34] using h1
    | succ i =>
      have := i2 i (by simpa using hi)
      simpa [rd_T34] using this
  | [], _ :: _, h => by simp [Sims] at h
  | _ :: _, [], h => by simp [Sims] at h
theorem run_sim {b : Int} (h0 : 0 ≤ b) (hb : b ≤ 549755813888) : ∀ (l : List S31) (p : Bool) (σ τ : Wat) (ws : List Int) (N : Int) (r s : List S34), Inv p σ ws N → Rl b σ τ → (∀ a, l.head? = some a → p = true → a.f0 ≠ 4) → run p l σ ws = some r → run p (l.map (mv b)) τ (ws.map (· + b)) = some s → Sims b r s
  | [], p, σ, τ, ws, N, r, s, _, _, _, h1, h2 => by
    simp [run] at h1 h2
    subst h1
    subst h2
    trivial
  | a :: l, p, σ, τ, ws, N, r, s, hi, h, hh, h1, h2 => by
    rw [List.map_cons] at h2
    simp only [run] at h1 h2
    split at h1
    · rename_i hok1
      split at h2
      · rename_i hok2
        obtain ⟨r2, hr2, rfl⟩ := Option.map_eq_some_iff.1 h1
        obtain ⟨s2, hs2, rfl⟩ := Option.map_eq_some_iff.1 h2
        have h4 : a.f0 ≠ 4 := by
          intro e4
          cases hp : p with
          | true => exact hh a rfl hp e4
          | false => simp [actOk, e4, hp] at hok1
        have hi2 := act_inv hi hok1
        obtain ⟨g1, g2⟩ := act_sim h0 hb hi h h4 hok1 hok2
        rw [g2] at hs2
        refine ⟨?_, run_sim h0 hb l _ _ _ _ _ r2 s2 hi2 g1 (fun c _ hp => ?_) hr2 hs2⟩
        · rw [g2]; exact sim_of hi2 g1
        · exact absurd (by simpa using hp) h4
      · cases h2
    · cases h1
/-! ### the printed loops -/
theorem moved_l1 (b : Int) (acc l : List S31) (n i : Int) (hacc : acc.length ≤ 1048576) (xs : List Int) (hx : xs.length ≤ 1048576) (f0 f1 : Int) : ∀ d m : Nat, m + d = xs.length → ∀ (c : List Int), c.length = m → ∀ K : Nat, spec_Moved.l1 (d + 1 + K) b acc l n i xs (xs.length : Int) (m : Int) f0 f1 c = spec_Moved.l0 K b (acc ++ [⟨f0, f1, c ++ (xs.drop m).map fun x => wrap64 (x + b)⟩]) l n (wrap64 (i + 1))
  | 0, m, hm, c, hc, K => by
    have : m = xs.length := by omega
    subst this
    rw [show 0 + 1 + K = K + 1 by omega, spec_Moved.l1, if_neg (by omega), if_pos (by omega)]
    simp
  | d + 1, m, hm, c, hc, K => by
    have hml : m < xs.length := by omega
    rw [show d + 1 + 1 + K = (d + 1 + K) + 1 by omega, spec_Moved.l1, if_pos (by omega), if_pos (by omega), if_pos (by omega), if_pos (by omega), w1_ m (by omega), moved_l1 b acc l n i hacc xs hx f0 f1 d (m + 1) (by omega) _ (by simp [hc]) K]
    have e : rd xs (m : Int) = xs[m] := by simp [rd, hml]
    rw [List.drop_eq_getElem_cons hml, List.map_cons, e, List.append_assoc]
    rfl
theorem moved_l0 (b : Int) (l : List S31) (hb : tot l ≤ 1048576) : ∀ d i : Nat, i + d = l.length → ∀ acc : List S31, acc.length = i → ∃ F, ∀ K, spec_Moved.l0 (F + K) b acc l (l.length : Int) (i : Int) = some (acc ++ (l.drop i).map (mv b))
  | 0, i, hi, acc, ha => ⟨1, fun K => by
    have : i = l.length := by omega
    subst this
    rw [show 1 + K = K + 1 by omega, spec_Moved.l0, if_neg (by omega)]
    simp⟩
  | d + 1, i, hi, acc, ha => by
    have hlen := len_tot l
    have hil : i < l.length := by omega
    have hm := mem_tot (a := l[i]) (List.getElem_mem hil)
    have ra : rd_T31 l (i : Int) = l[i] := by simp [rd_T31, hil]
    obtain ⟨F, hF⟩ := moved_l0 b l hb d (i + 1) (by omega) (acc ++ [mv b l[i]]) (by simp [ha])
    refine ⟨(l[i]).f2.length + 1 + F + 1, fun K => ?_⟩
    have h1 := moved_l1 b acc l (l.length : Int) (i : Int) (by omega) (l[i]).f2 (by omega) (l[i]).f0 (wrap64 ((l[i]).f1 + b)) (l[i]).f2.length 0 (by omega) [] rfl (F + K)
    rw [show ((0 : Nat) : Int) = 0 from rfl] at h1
    rw [show (l[i]).f2.length + 1 + F + 1 + K = ((l[i]).f2.length + 1 + (F + K)) + 1 by omega, spec_Moved.l0, if_pos (by omega), if_pos (by omega), if_pos (by omega), ra, h1, w1_ i (by omega)]
    have := hF K
    rw [List.append_assoc] at this
    rw [List.drop_zero, List.nil_append, List.drop_eq_getElem_cons hil, List.map_cons]
    exact this
theorem tot_mv (b : Int) : ∀ l : List S31, tot (l.map (mv b)) = tot l
  | [] => rfl
  | a :: l => by
    have := tot_mv b l
    simp only [tot] at this
    simp only [tot, List.map_cons, List.sum_cons, this]
    simp [weight, mv]
theorem set_go (b : Int) (h0 : 0 ≤ b) (hb : b ≤ 549755813888) (r s : List S34) (m0 : S34) (hl : r.length ≤ 1048576) (hs : Sims b r s) (hx : ∀ m ∈ r, m.f4.length ≤ 1048576) (K : Nat) (hK : 1048577 ≤ K) : ∀ d i : Nat, i + d = r.length → laws_FnMarkSet.l0 (d + 1 + K) b r (m0 :: s) (r.length : Int) (i : Int) = some true
  | 0, i, hi => by
    rw [show 0 + 1 + K = K + 1 by omega, laws_FnMarkSet.l0, if_neg (by omega), works_]
    rfl
  | d + 1, i, hi => by
    obtain ⟨s1, s2⟩ := sims_at hs
    have hil : i < r.length := by omega
    have si := s2 i hil
    have ri : rd_T34 r (i : Int) = r[i] := by simp [rd_T34, hil]
    have hxi := hx r[i] (List.getElem_mem hil)
    have e1 : rd_T34 (m0 :: s) ((i + 1 : Nat) : Int) = rd_T34 s (i : Int) := by simp [rd_T34]
    have hlo := si.lo
    have hhi := si.hi
    have hw : wrap64 ((rd_T34 r (i : Int)).f0 + b) = (rd_T34 r (i : Int)).f0 + b := wr b _ h0 hb hlo hhi
    rw [show d + 1 + 1 + K = (d + 1 + K) + 1 by omega, laws_FnMarkSet.l0, if_pos (by omega), w1_ i (by omega), if_pos (by omega), if_pos (by simp [s1]; omega), if_pos (by omega), if_pos (by omega), e1, hw, if_pos si.till, if_pos si.pend, si.ended, same_ _ (by rw [ri]; omega) _ (by rw [ri]; omega), Option.bind_some, if_pos rfl]
    exact set_go b h0 hb r s m0 hl hs hx K hK d (i + 1) (by omega)
theorem FnMarkSet_ (l : List S31) (b : Int) (h : tot l ≤ 1048576) : ∃ k, laws_FnMarkSet.f k l b = some true := by
  have hl := len_tot l
  have stop : ∀ K, laws_FnMarkSet.j0 (K + 1) l b true = some true := fun K => by
    rw [laws_FnMarkSet.j0, if_pos rfl, works_]; rfl
  by_cases hb0 : b < 0
  · refine ⟨l.length + 1 + 0, ?_⟩
    have hf := fits l h 0
    unfold laws_FnMarkSet.f
    rw [hf, Option.bind_some, if_pos rfl, if_pos hb0]
    exact stop _
  · by_cases hb1 : b > 549755813888
    · refine ⟨l.length + 1 + 0, ?_⟩
      have hf := fits l h 0
      unfold laws_FnMarkSet.f
      rw [hf, Option.bind_some, if_pos rfl, if_neg hb0, decide_eq_true hb1]
      exact stop _
    · obtain ⟨B, hB⟩ : ∃ B : Nat, B = 1048577 := ⟨_, rfl⟩
      obtain ⟨F, hF⟩ := moved_l0 b l h l.length 0 (by omega) [] rfl
      rw [show ((0 : Nat) : Int) = 0 from rfl] at hF
      simp only [List.drop_zero, List.nil_append] at hF
      have stop1 : ∀ K y, laws_FnMarkSet.j1 (K + 1) l b y true = some true := fun K y => by
        rw [laws_FnMarkSet.j1, if_pos rfl, works_]; rfl
      -- enough rounds for all
      refine ⟨l.length + 1 + (F + B + 5), ?_⟩
      have hf := fits l h (F + B + 5)
      unfold laws_FnMarkSet.f
      rw [hf, Option.bind_some, if_pos rfl, if_neg hb0, decide_eq_false hb1]
      have hF2 := hF (l.length + 1 + B + 4)
      have htm := tot_mv b l
      have ht2 : tot (⟨4, b, []⟩ :: l.map (mv b)) ≤ 4194304 := by
        simp only [tot, List.map_cons, List.sum_cons, weight] at htm ⊢
        simp only [tot] at h
        simp only [List.length_nil]
        omega
      rw [show l.length + 1 + (F + B + 5) = (F + (l.length + 1 + B + 4)) + 1 by omega, laws_FnMarkSet.j0, if_neg (by simp), Option.bind_some]
      unfold spec_Moved.f
      rw [hF2, Option.bind_some, if_pos (by simp; omega), Option.bind_some]
      simp only [List.cons_append, List.nil_append]
      rw [spec_f_ l (by omega), Option.bind_some, spec_f_ _ ht2, Option.bind_some]
      have gap : F + (l.length + 1 + B + 4) = (F + (l.length + 1 + B + 3)) + 1 := by omega
      rw [gap]
      cases hr : run true l w0 [] with
      | none => simp only [Option.isSome_none, Bool.false_eq_true, if_false]; exact stop1 _ _
      | some r =>
        simp only [Option.isSome_some, if_true]
        cases hs : run true (⟨4, b, []⟩ :: l.map (mv b)) w0 [] with
        | none => simp only [Option.isSome_none, Bool.false_eq_true, if_false]; exact stop1 _ _
        | some s =>
          simp only [Option.isSome_some, if_true]
          have go : (∀ a, l.head? = some a → a.f0 ≠ 4) → laws_FnMarkSet.j1 (F + (l.length + 1 + B + 3) + 1) l b (⟨4, b, []⟩ :: l.map (mv b)) false = some true := by
            intro hh
            have hs' := hs
            simp only [run] at hs'
            split at hs'
            · rename_i hok
              obtain ⟨s2, hs2, rfl⟩ := Option.map_eq_some_iff.1 hs'
              have hact : (actOk true ⟨4, b, []⟩ w0 []).2.1 = ⟨b, 0, []⟩ ∧ (actOk true ⟨4, b, []⟩ w0 []).2.2 = [] := by simp [actOk, w0]
              rw [hact.1, hact.2] at hs2
              have hsim := run_sim (b := b) (by omega) (by omega) l true w0 ⟨b, 0, []⟩ [] 0 r s2 inv0 ⟨by simp [w0], rfl⟩ (fun a ha _ => hh a ha) hr (by simpa using hs2)
              have hrl := run_len l _ _ _ r hr
              have hsl := (sims_at hsim).1
              have hre := run_ended_ l _ _ _ r hr
              rw [laws_FnMarkSet.j1, if_neg (by simp), impl_f_ l (by omega), hr, Option.bind_some, impl_f_ _ ht2, hs, Option.bind_some, if_pos (by omega)]
              have e2 : wrap64 ((r.length : Int) + 1) = ((r.length + 1 : Nat) : Int) := w1_ _ (by omega)
              rw [e2]
              have e3 : (((markOf (actOk true ⟨4, b, []⟩ w0 []).2.1 (actOk true ⟨4, b, []⟩ w0 []).2.2 :: s2).length : Int) != ((r.length + 1 : Nat) : Int)) = false := by
                simp [hsl]
              rw [e3, show F + (l.length + 1 + B + 3) = (F + (l.length + 1 + B + 2)) + 1 by omega, laws_FnMarkSet.j2, if_neg (by simp)]
              have := set_go b (by omega) (by omega) r s2 (markOf (actOk true ⟨4, b, []⟩ w0 []).2.1 (actOk true ⟨4, b, []⟩ w0 []).2.2) (by omega) hsim (fun m hm => by have := hre m hm; simp at this; omega) (F + B + 2) (by omega) r.length 0 (by omega)
              rw [show F + (l.length + 1 + B + 2) = r.length + 1 + (F + B + 2) by omega]
              exact this
            · cases hs'
          cases l with
          | nil =>
            simp only [List.length_nil, Int.natCast_zero]
            rw [if_neg (by omega)]
            exact go (fun a ha => by simp at ha)
          | cons a t =>
            rw [if_pos (by simp), if_pos (by simp)]
            have e0 : rd_T31 (a :: t) 0 = a := rfl
            rw [e0]
            by_cases h4 : a.f0 = 4
            · rw [h4]; exact stop1 _ _
            · rw [show (a.f0 == 4) = false by simpa using h4]
              exact go (fun c hc => by simp at hc; rw [← hc]; exact h4)
end Go.Proofs.Ytimakagmhikhfaa.Pure
