/- A mark that is not set never goes back: the plain law. -/
import Derived.Test.YtimakagmhikhfaaMx2
import Derived.Test.YtimakagmhikhfaaPc
namespace Go.Proofs.Ytimakagmhikhfaa.Pure
open Go.RowKit Go.Proofs.Ytimakagmhikhfaa.M Go.Proofs.Ytimakagmhikhfaa.Mk Go.Proofs.Ytimakagmhikhfaa.Sm Go.Proofs.YtimakagmhikhfaaW.PrintWords Go.Proofs.YtimakagmhikhfaaW.PrintLast
set_option linter.unusedVariables false
/-- The mark and all that is pending are at most at t. -/
def TI (σ : Wat) (t : Int) : Prop := σ.till ≤ t ∧ ∀ p ∈ σ.pend, p.1 ≤ t
theorem TI.mono {σ : Wat} {t s : Int} (h : TI σ t) (hs : t ≤ s) : TI σ s := ⟨by have := h.1; omega, fun p hp => by have := h.2 p hp; omega⟩
theorem popz_top {t : Int} : ∀ (l : List (Int × Int)) (u : Int), u ≤ t → (∀ p ∈ l, p.1 ≤ t) → (popz u l).1 ≤ t ∧ ∀ p ∈ (popz u l).2, p.1 ≤ t
  | [], u, hu, _ => ⟨hu, fun p hp => by simp [popz] at hp⟩
  | (j, c) :: l, u, hu, h => by
    simp only [popz]
    split
    · exact popz_top l j (h (j, c) List.mem_cons_self) (fun p hp => h p (List.mem_cons_of_mem _ hp))
    · exact ⟨hu, h⟩
theorem ins_top {i d t : Int} (hi : i ≤ t) : ∀ (l : List (Int × Int)), (∀ p ∈ l, p.1 ≤ t) → ∀ p ∈ ins i d l, p.1 ≤ t
  | [], _, p, hp => by simp [ins] at hp; rw [hp]; exact hi
  | (j, c) :: l, h, p, hp => by
    have h2 : ∀ p ∈ l, p.1 ≤ t := fun p hp => h p (List.mem_cons_of_mem _ hp)
    have h1 := h (j, c) List.mem_cons_self
    simp only [ins] at hp
    split at hp
    · rcases List.mem_cons.1 hp with e | e
      · rw [e]; exact h1
      · exact ins_top hi l h2 p e
    · split at hp
      · rcases List.mem_cons.1 hp with e | e
        · rw [e]; exact h1
        · exact h2 p e
      · rcases List.mem_cons.1 hp with e | e
        · rw [e]; exact hi
        · exact h p e
theorem TI.add {σ : Wat} {i d t : Int} (h : TI σ t) (hi : i ≤ t) : TI (σ.add i d) t := popz_top _ _ h.1 (ins_top hi _ h.2)
theorem TI.begin_ {σ : Wat} {i t : Int} (h : TI σ t) (hi : i ≤ t) : TI (σ.begin_ i).2 t := by
  unfold Wat.begin_
  split
  · exact h
  · exact h.add hi
theorem TI.done_ {σ : Wat} {i t : Int} (h : TI σ t) : TI (σ.done_ i).2 t := by
  unfold Wat.done_
  split
  · rename_i hc
    refine h.add ?_
    unfold isOpen at hc
    cases e : cnt i σ.pend with
    | none => rw [e] at hc; cases hc
    | some c => exact h.2 (i, c) (cnt_some e)
  · exact h
theorem TI.manyB {t : Int} : ∀ (xs : List Int) (b : Bool) (σ : Wat), TI σ t → (∀ x ∈ xs, x ≤ t) → TI (manyB xs b σ).2 t
  | [], b, σ, h, _ => h
  | x :: xs, b, σ, h, hx => by
    simp only [Mk.manyB]
    split
    · exact TI.manyB xs _ _ (h.begin_ (hx x List.mem_cons_self)) (fun y hy => hx y (List.mem_cons_of_mem _ hy))
    · exact TI.manyB xs _ _ h (fun y hy => hx y (List.mem_cons_of_mem _ hy))
theorem TI.manyD {t : Int} : ∀ (xs : List Int) (b : Bool) (σ : Wat), TI σ t → TI (manyD xs b σ).2 t
  | [], b, σ, h => h
  | x :: xs, b, σ, h => by
    simp only [Mk.manyD]
    split
    · exact TI.manyD xs _ _ h.done_
    · exact TI.manyD xs _ _ h
/-! ### the mark goes up -/
theorem begin_up {σ : Wat} {i N : Int} (h : Fine σ.till σ.pend N) (hN : 0 ≤ N) : σ.till ≤ (σ.begin_ i).2.till := by
  unfold Wat.begin_
  split
  · exact Int.le_refl _
  · rename_i hc
    exact (popz_fine (h.ins_begin (i := i) (by simp only [most] at hc; omega) (by omega) hN)).2.2
theorem done_up {σ : Wat} {i N : Int} (h : Fine σ.till σ.pend N) : σ.till ≤ (σ.done_ i).2.till := by
  unfold Wat.done_
  split
  · rename_i hc
    exact (popz_fine (h.ins_done hc)).2.2
  · exact Int.le_refl _
theorem manyB_up : ∀ (xs : List Int) (b : Bool) (σ : Wat) (N : Int), Fine σ.till σ.pend N → 0 ≤ N → σ.till ≤ (manyB xs b σ).2.till
  | [], b, σ, N, h, hN => Int.le_refl _
  | x :: t, b, σ, N, h, hN => by
    simp only [Mk.manyB]
    split
    · have h1 := begin_up (i := x) h hN
      have h2 := manyB_up t (σ.begin_ x).1 (σ.begin_ x).2 (N + 1) (begin_fine h hN) (by omega)
      omega
    · exact manyB_up t _ _ N h hN
theorem manyD_up : ∀ (xs : List Int) (b : Bool) (σ : Wat) (N : Int), Fine σ.till σ.pend N → σ.till ≤ (manyD xs b σ).2.till
  | [], b, σ, N, h => Int.le_refl _
  | x :: t, b, σ, N, h => by
    simp only [Mk.manyD]
    split
    · have h1 := done_up (i := x) h
      have h2 := manyD_up t (σ.done_ x).1 (σ.done_ x).2 N (done_fine h)
      omega
    · exact manyD_up t _ _ N h
/-- The greatest index behind an act, as the law reckons it. -/
def fmx (t : Int) (xs : List Int) : Int := xs.foldl mx t
def top1 (t : Int) (a : S31) : Int := fmx (if a.f0 = 0 then mx t a.f1 else t) a.f2
theorem fmx_le : ∀ (xs : List Int) (t : Int), t ≤ fmx t xs ∧ ∀ x ∈ xs, x ≤ fmx t xs
  | [], t => ⟨Int.le_refl _, fun x hx => by cases hx⟩
  | y :: xs, t => by
    have ⟨h1, h2⟩ := fmx_le xs (mx t y)
    have h3 : t ≤ mx t y ∧ y ≤ mx t y := by unfold mx; omega
    simp only [fmx, List.foldl_cons] at h1 h2 ⊢
    refine ⟨by omega, fun x hx => ?_⟩
    rcases List.mem_cons.1 hx with e | e
    · subst e; omega
    · exact h2 x e
theorem act_ti {p : Bool} {a : S31} {σ : Wat} {ws : List Int} {t : Int} (h : TI σ t) (h4 : a.f0 ≠ 4) : TI (actOk p a σ ws).2.1 (top1 t a) := by
  have ⟨g1, g2⟩ := fmx_le a.f2 (if a.f0 = 0 then mx t a.f1 else t)
  have g3 : t ≤ (if a.f0 = 0 then mx t a.f1 else t) := by unfold mx; split <;> omega
  have h' : TI σ (top1 t a) := h.mono (by simp only [top1]; omega)
  unfold actOk
  split
  · rename_i e
    refine h'.begin_ ?_
    rw [if_pos e] at g1
    have : a.f1 ≤ mx t a.f1 := by unfold mx; omega
    simp only [top1]
    rw [if_pos e]
    omega
  · split
    · exact TI.manyB _ _ _ h' g2
    · split
      · exact h'.done_
      · split
        · exact TI.manyD _ _ _ h'
        · split
          · exact h'
          · exact h'
theorem act_up {p : Bool} {a : S31} {σ : Wat} {ws : List Int} {N : Int} (h : Inv p σ ws N) (h4 : a.f0 ≠ 4) : σ.till ≤ (actOk p a σ ws).2.1.till ∧ ∃ v, (actOk p a σ ws).2.2 = ws ++ v := by
  unfold actOk
  split
  · exact ⟨begin_up h.fine h.pos, [], by simp⟩
  · split
    · exact ⟨manyB_up _ _ _ _ h.fine h.pos, [], by simp⟩
    · split
      · exact ⟨done_up h.fine, [], by simp⟩
      · split
        · exact ⟨manyD_up _ _ _ _ h.fine, [], by simp⟩
        · split
          · exact ⟨Int.le_refl _, [a.f1], rfl⟩
          · exact ⟨Int.le_refl _, [], by simp⟩
/-- What the law asks of the marks, one behind the other. -/
def Rises (q m : S34) : Prop := q.f0 ≤ m.f0 ∧ q.f4.length ≤ m.f4.length ∧ ∀ j, q.f4.getD j false = true → m.f4.getD j false = true
def G : Int → Option S34 → List S31 → List S34 → Prop
  | t, q, a :: l, m :: r => if a.f0 = 4 then G a.f1 (some m) l r else (m.f0 ≤ top1 t a ∧ ∀ q0, q = some q0 → Rises q0 m) ∧ G (top1 t a) (some m) l r
  | _, _, _, _ => True
theorem rises_of {σ τ : Wat} {ws vs : List Int} (h : σ.till ≤ τ.till) (e : ∃ v, vs = ws ++ v) : Rises (markOf σ ws) (markOf τ vs) := by
  obtain ⟨v, rfl⟩ := e
  refine ⟨h, by simp [markOf], fun j hj => ?_⟩
  simp only [markOf, List.getD_eq_getElem?_getD, List.getElem?_map, List.getElem?_append] at hj ⊢
  by_cases hl : j < ws.length
  · rw [if_pos hl]
    rw [List.getElem?_eq_getElem hl] at hj ⊢
    simp only [Option.map_some, Option.getD_some, decide_eq_true_eq] at hj ⊢
    omega
  · rw [List.getElem?_eq_none (by omega)] at hj
    simp at hj
theorem run_G : ∀ (l : List S31) (p : Bool) (σ : Wat) (ws : List Int) (N t : Int) (q : Option S34) (r : List S34), Inv p σ ws N → TI σ t → (∀ q0, q = some q0 → q0 = markOf σ ws) → run p l σ ws = some r → G t q l r
  | [], p, σ, ws, N, t, q, r, _, _, _, _ => by cases r <;> trivial
  | a :: l, p, σ, ws, N, t, q, r, hi, ht, hq, h => by
    simp only [run] at h
    split at h
    · rename_i hok
      obtain ⟨r2, h2, rfl⟩ := Option.map_eq_some_iff.1 h
      have hi2 := act_inv hi hok
      simp only [G]
      by_cases h4 : a.f0 = 4
      · rw [if_pos h4]
        refine run_G l _ _ _ _ _ _ r2 hi2 ?_ (fun q0 e => by injection e with e; exact e.symm) h2
        have ⟨n1, _⟩ := hi2.none_ (by rw [h4]; rfl)
        refine ⟨?_, fun x hx => by rw [n1] at hx; cases hx⟩
        simp [actOk, h4]
      · rw [if_neg h4]
        have hti := act_ti (p := p) (ws := ws) ht h4
        refine ⟨⟨hti.1, fun q0 e => ?_⟩, run_G l _ _ _ _ _ _ r2 hi2 hti (fun q0 e => by injection e with e; exact e.symm) h2⟩
        rw [hq q0 e]
        have := act_up hi h4
        exact rises_of this.1 this.2
    · cases h
/-! ### the printed loops -/
theorem w1 (m : Nat) (h : m ≤ 2097152) : wrap64 ((m : Int) + 1) = ((m + 1 : Nat) : Int) := by unfold wrap64; omega
theorem grows_l1 (x0 : List S31) (x5 : List S34) (x7 x30 x31 : Int) (xs : List Int) (hx : xs.length ≤ 1048576) : ∀ d m : Nat, m + d = xs.length → ∀ (t : Int) (K : Nat), laws_FnMarkGrows.l1 (d + (K + 1)) x0 x5 t x7 x30 x31 xs (xs.length : Int) (m : Int) = laws_FnMarkGrows.l1 (K + 1) x0 x5 (fmx t (xs.drop m)) x7 x30 x31 xs (xs.length : Int) (xs.length : Int)
  | 0, m, hm, t, K => by
    have : m = xs.length := by omega
    subst this
    simp [fmx]
  | d + 1, m, hm, t, K => by
    have hml : m < xs.length := by omega
    rw [show d + 1 + (K + 1) = (d + (K + 1)) + 1 by omega, laws_FnMarkGrows.l1, if_pos (by omega), if_pos (by omega), if_pos (by omega), w1 m (by omega), grows_l1 x0 x5 x7 x30 x31 xs hx d (m + 1) (by omega)]
    have e : fmx t (xs.drop m) = fmx (mx t xs[m]) (xs.drop (m + 1)) := by
      rw [List.drop_eq_getElem_cons hml]
      rfl
    have e2 : rd xs (m : Int) = xs[m] := by simp [rd, hml]
    rw [e, e2]
theorem grows_l2 (x0 : List S31) (x5 : List S34) (t : Int) (i : Nat) (hi : i < x5.length) (hb : x5.length ≤ 1048576) (hx : ∀ m ∈ x5, m.f4.length ≤ 1048576) (hr : 0 < i → Rises (rd_T34 x5 ((i - 1 : Nat) : Int)) (rd_T34 x5 (i : Int))) (N : Int) : ∀ d j : Nat, (0 < i → j + d = (rd_T34 x5 ((i - 1 : Nat) : Int)).f4.length) → ∀ K : Nat, ∃ F, ∀ K, laws_FnMarkGrows.l2 (F + K) x0 x5 t (i : Int) (j : Int) N (i : Int) = laws_FnMarkGrows.l0 K x0 x5 t N (wrap64 ((i : Int) + 1)) := by
  intro d
  have hq : ∀ q : Nat, q < x5.length → (rd_T34 x5 (q : Int)) ∈ x5 := fun q hq => by
    have : rd_T34 x5 (q : Int) = x5[q] := by simp [rd_T34, hq]
    rw [this]; exact List.getElem_mem hq
  have e1 : 0 < i → wrap64 ((i : Int) - 1) = ((i - 1 : Nat) : Int) := fun h => by unfold wrap64; omega
  have stop : ∀ K j, laws_FnMarkGrows.j5 (K + 1) x0 x5 t (i : Int) j N (i : Int) false = laws_FnMarkGrows.l0 K x0 x5 t N (wrap64 ((i : Int) + 1)) := fun K j => by
    rw [laws_FnMarkGrows.j5, if_neg (by simp)]
  by_cases h0 : 0 < i
  · have e1 := e1 h0
    have hr := hr h0
    have hl := hx _ (hq (i - 1) (by omega))
    induction d with
    | zero =>
      intro j hj K
      have hj := hj h0
      refine ⟨2, fun K => ?_⟩
      rw [show 2 + K = (K + 1) + 1 by omega, laws_FnMarkGrows.l2, if_pos (by omega), e1, if_pos (by omega), if_pos (by omega), decide_eq_false (by omega)]
      exact stop K _
    | succ d ih =>
      intro j hj K
      have hj := hj h0
      obtain ⟨F, hF⟩ := ih (j + 1) (fun _ => by omega) 0
      refine ⟨F + 2, fun K => ?_⟩
      rw [show F + 2 + K = (F + K + 1) + 1 by omega, laws_FnMarkGrows.l2, if_pos (by omega), e1, if_pos (by omega), if_pos (by omega), decide_eq_true (by omega)]
      rw [laws_FnMarkGrows.j5, if_pos rfl, e1, if_pos (by omega), if_pos (by omega), if_pos (by omega), if_pos (by omega), w1 j (by omega), hF K]
      have hrr := hr.2.2 j
      have hrl := hr.2.1
      have hd : ∀ q : List Bool, rdOf false q (j : Int) = q.getD j false := fun q => by simp [rdOf]
      rw [hd, hd]
      by_cases hb1 : (rd_T34 x5 ((i - 1 : Nat) : Int)).f4.getD j false = true
      · rw [if_pos hb1, if_pos (by omega), if_pos (by omega), if_neg (by omega), if_pos (by omega), if_pos (hrr hb1)]
      · rw [if_neg hb1]
  · intro j _ K
    refine ⟨2, fun K => ?_⟩
    rw [show 2 + K = (K + 1) + 1 by omega, laws_FnMarkGrows.l2, if_neg (by omega)]
    exact stop K _
theorem grows_go (l : List S31) (r : List S34) (hl : l.length = r.length) (hb : tot l ≤ 1048576) (hx : ∀ m ∈ r, m.f4.length ≤ 1048576) : ∀ d i : Nat, i + d = r.length → ∀ t : Int, G t (if 0 < i then some (rd_T34 r ((i - 1 : Nat) : Int)) else none) (l.drop i) (r.drop i) → ∃ F, ∀ K, laws_FnMarkGrows.l0 (F + K) l r t (r.length : Int) (i : Int) = some true
  | 0, i, hi, t, _ => ⟨1, fun K => by rw [show 1 + K = K + 1 by omega, laws_FnMarkGrows.l0, if_neg (by omega), works_]; rfl⟩
  | d + 1, i, hi, t, hG => by
    have hlen := len_tot l
    have hil : i < l.length := by omega
    have hir : i < r.length := by omega
    have hm := mem_tot (a := l[i]) (List.getElem_mem hil)
    have ra : rd_T31 l (i : Int) = l[i] := by simp [rd_T31, hil]
    have rm : rd_T34 r (i : Int) = r[i] := by simp [rd_T34, hir]
    rw [List.drop_eq_getElem_cons hil, List.drop_eq_getElem_cons hir] at hG
    simp only [G] at hG
    -- the head, up to the loop over the list
    have head : ∀ K, laws_FnMarkGrows.l0 ((l[i]).f2.length + (K + 1) + 1 + 1) l r t (r.length : Int) (i : Int) = laws_FnMarkGrows.l1 (K + 1) l r (top1 t l[i]) (i : Int) (r.length : Int) (i : Int) (l[i]).f2 ((l[i]).f2.length : Int) ((l[i]).f2.length : Int) := by
      intro K
      have hl1 := fun t => grows_l1 l r (i : Int) (r.length : Int) (i : Int) (l[i]).f2 (by omega) (l[i]).f2.length 0 (by omega) t K
      simp only [List.drop_zero, Int.natCast_zero] at hl1
      rw [laws_FnMarkGrows.l0, if_pos (by omega), if_pos (by omega), if_pos (by omega), ra]
      unfold top1
      split
      · rw [laws_FnMarkGrows.j1, if_pos (by omega), if_pos (by omega), ra, hl1]
      · rw [laws_FnMarkGrows.j1, if_pos (by omega), if_pos (by omega), ra, hl1]
    by_cases h4 : (l[i]).f0 = 4
    · rw [if_pos h4] at hG
      obtain ⟨F, hF⟩ := grows_go l r hl hb hx d (i + 1) (by omega) (l[i]).f1 (by
        rw [if_pos (by omega), show i + 1 - 1 = i by omega, rm]; exact hG)
      refine ⟨(l[i]).f2.length + F + 3, fun K => ?_⟩
      rw [show (l[i]).f2.length + F + 3 + K = (l[i]).f2.length + (F + K + 1) + 1 + 1 by omega, head, laws_FnMarkGrows.l1, if_neg (by omega), if_pos (by omega), if_pos (by omega), ra, if_pos h4, w1 i (by omega)]
      exact hF K
    · rw [if_neg h4] at hG
      obtain ⟨⟨g1, g2⟩, g3⟩ := hG
      obtain ⟨F, hF⟩ := grows_go l r hl hb hx d (i + 1) (by omega) (top1 t l[i]) (by
        rw [if_pos (by omega), show i + 1 - 1 = i by omega, rm]; exact g3)
      have hr : 0 < i → Rises (rd_T34 r ((i - 1 : Nat) : Int)) (rd_T34 r (i : Int)) := fun h0 => by
        rw [rm]; exact g2 _ (by rw [if_pos h0])
      obtain ⟨F2, hF2⟩ := grows_l2 l r (top1 t l[i]) i hir (by omega) hx hr (r.length : Int) (if 0 < i then (rd_T34 r ((i - 1 : Nat) : Int)).f4.length else 0) 0 (fun h => by rw [if_pos h]; omega) 0
      refine ⟨(l[i]).f2.length + (F2 + F) + 4, fun K => ?_⟩
      rw [show (l[i]).f2.length + (F2 + F) + 4 + K = (l[i]).f2.length + ((F2 + (F + K) + 1) + 1) + 1 + 1 by omega, head, laws_FnMarkGrows.l1, if_neg (by omega), if_pos (by omega), if_pos (by omega), ra, if_neg h4, if_pos (by omega), rm, if_neg (by omega)]
      have fin : laws_FnMarkGrows.j3 (F2 + (F + K) + 1) l r (top1 t l[i]) (i : Int) (r.length : Int) (i : Int) false = some true := by
        rw [laws_FnMarkGrows.j3, if_neg (by simp)]
        have := hF2 (F + K)
        rw [show ((0 : Nat) : Int) = 0 from rfl] at this
        rw [this, w1 i (by omega)]
        exact hF K
      by_cases h0 : 0 < i
      · have e1 : wrap64 ((i : Int) - 1) = ((i - 1 : Nat) : Int) := by unfold wrap64; omega
        rw [if_pos (by omega), e1, if_pos (by omega), if_pos (by omega)]
        have := (hr h0).1
        rw [rm] at this
        rw [decide_eq_false (by omega)]
        exact fin
      · rw [if_neg (by omega)]
        exact fin
theorem run_ended : ∀ (l : List S31) (p : Bool) (σ : Wat) (ws : List Int) (r : List S34), run p l σ ws = some r → ∀ x ∈ r, x.f4.length ≤ ws.length + l.length
  | [], p, σ, ws, r, h => by simp [run] at h; subst h; intro x hx; cases hx
  | a :: t, p, σ, ws, r, h => by
    simp only [run] at h
    split at h
    · obtain ⟨r2, h2, rfl⟩ := Option.map_eq_some_iff.1 h
      have h3 := Rm.act_len p a σ ws
      intro x hx
      rcases List.mem_cons.1 hx with hx | hx
      · subst hx
        simp only [markOf, List.length_map, List.length_cons]
        omega
      · have := run_ended t _ _ _ r2 h2 x hx
        simp only [List.length_cons]
        omega
    · cases h
theorem FnMarkGrows_ (l : List S31) (h : tot l ≤ 1048576) : ∃ k, laws_FnMarkGrows.f k l = some true := by
  have hl := len_tot l
  cases hr : run true l w0 [] with
  | none =>
    refine ⟨l.length + 1 + 0, ?_⟩
    have hf := fits l h 0
    unfold laws_FnMarkGrows.f
    rw [hf, Option.bind_some, if_pos rfl, spec_f l h, Option.bind_some, hr]
    simp [works_]
  | some r =>
    have hrl := run_len l _ _ _ r hr
    have hre := run_ended l _ _ _ r hr
    have hG := run_G l true w0 [] 0 0 none r inv0 ⟨Int.le_refl _, fun p hp => by cases hp⟩ (fun q0 e => by cases e) hr
    obtain ⟨F, hF⟩ := grows_go l r (by omega) h (fun m hm => by have := hre m hm; simp at this; omega) r.length 0 (by omega) 0 (by simpa using hG)
    refine ⟨l.length + 1 + F, ?_⟩
    have hf := fits l h F
    unfold laws_FnMarkGrows.f
    rw [hf, Option.bind_some, if_pos rfl, spec_f l h, Option.bind_some, impl_f l h, hr]
    simp only [Option.isSome_some, if_true, Option.bind_some]
    rw [if_pos (by omega)]
    have := hF (l.length + 1)
    rw [show l.length + 1 + F = F + (l.length + 1) by omega]
    exact this
end Go.Proofs.Ytimakagmhikhfaa.Pure
