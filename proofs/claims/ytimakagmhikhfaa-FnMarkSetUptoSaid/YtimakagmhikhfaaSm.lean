/- What a water mark tells behind each act, by its definition. -/
import Derived.Test.YtimakagmhikhfaaPr
namespace Go.Proofs.Ytimakagmhikhfaa.Sm
open Go.Proofs.Ytimakagmhikhfaa.M Go.Proofs.Ytimakagmhikhfaa.Mk Go.Proofs.Ytimakagmhikhfaa.Pr Go.Proofs.Ytimakagmhikhfaa.Wt
set_option linter.unusedVariables false
set_option linter.unusedSimpArgs false
/-- An act: is it told of, and what comes of it. p: it is the first, or the one ahead of it has set the mark. -/
def actOk (p : Bool) (a : S31) (σ : Wat) (ws : List Int) : Bool × Wat × List Int :=
  if a.f0 = 0 then ((σ.begin_ a.f1).1, (σ.begin_ a.f1).2, ws)
  else if a.f0 = 1 then ((manyB a.f2 (decide (0 < (a.f2.length : Int))) σ).1, (manyB a.f2 (decide (0 < (a.f2.length : Int))) σ).2, ws)
  else if a.f0 = 2 then ((σ.done_ a.f1).1, (σ.done_ a.f1).2, ws)
  else if a.f0 = 3 then ((manyD a.f2 (decide (0 < (a.f2.length : Int))) σ).1, (manyD a.f2 (decide (0 < (a.f2.length : Int))) σ).2, ws)
  else if a.f0 = 4 then (decide (0 ≤ a.f1) && decide (a.f1 ≤ most) && p, { σ with till := a.f1 }, ws)
  else if a.f0 = 5 then (decide (1 ≤ a.f1) && decide (a.f1 ≤ most), σ, ws ++ [a.f1])
  else (false, σ, ws)
def markOf (σ : Wat) (ws : List Int) : S34 := ⟨σ.till, σ.last, σ.pend.length, (ws.filter fun x => decide (σ.till < x)).length, ws.map fun x => decide (x ≤ σ.till)⟩
def run : Bool → List S31 → Wat → List Int → Option (List S34)
  | _, [], _, _ => some []
  | p, a :: t, σ, ws => if (actOk p a σ ws).1 then (run (a.f0 == 4) t (actOk p a σ ws).2.1 (actOk p a σ ws).2.2).map (markOf (actOk p a σ ws).2.1 (actOk p a σ ws).2.2 :: ·) else none
def weight (a : S31) : Nat := 1 + a.f2.length
def tot (l : List S31) : Nat := (l.map weight).sum
def w0 : Wat := ⟨0, 0, []⟩
def specF (l : List S31) : Option (List S34 × Bool) := if tot l ≤ 1099511627776 then some (match run true l w0 [] with
  | some r => (r, true)
  | none => ([], false)) else none
def implF (l : List S31) : Option (List S34) := if tot l ≤ 1099511627776 then run true l w0 [] else none
/-! ### what holds throughout -/
theorem begin_fine {σ : Wat} {i N : Int} (h : Fine σ.till σ.pend N) (hN : 0 ≤ N) : Fine (σ.begin_ i).2.till (σ.begin_ i).2.pend (N + 1) := by
  unfold Wat.begin_
  split
  · exact h.mono (by omega)
  · rename_i hc
    have := popz_fine (h.ins_begin (i := i) (by simp only [most] at hc; omega) (by omega) hN)
    exact this.1
theorem done_fine {σ : Wat} {i N : Int} (h : Fine σ.till σ.pend N) : Fine (σ.done_ i).2.till (σ.done_ i).2.pend N := by
  unfold Wat.done_
  split
  · rename_i hc
    exact (popz_fine (h.ins_done hc)).1
  · exact h
theorem manyB_fine : ∀ {xs : List Int} {b : Bool} {σ : Wat} {N : Int}, Fine σ.till σ.pend N → 0 ≤ N → Fine (manyB xs b σ).2.till (manyB xs b σ).2.pend (N + xs.length)
  | [], b, σ, N, h, hN => by simpa [manyB] using h
  | x :: t, b, σ, N, h, hN => by
    have e : N + ((x :: t).length : Int) = (N + 1) + t.length := by simp; omega
    rw [e]
    simp only [manyB]
    split
    · exact manyB_fine (begin_fine h hN) (by omega)
    · exact manyB_fine (h.mono (by omega)) (by omega)
theorem manyD_fine : ∀ {xs : List Int} {b : Bool} {σ : Wat} {N : Int}, Fine σ.till σ.pend N → Fine (manyD xs b σ).2.till (manyD xs b σ).2.pend N
  | [], b, σ, N, h => by simpa [manyD] using h
  | x :: t, b, σ, N, h => by
    simp only [manyD]
    split
    · exact manyD_fine (done_fine h)
    · exact manyD_fine h
/-- Behind an act that is told of. -/
structure Inv (p : Bool) (σ : Wat) (ws : List Int) (N : Int) : Prop where
  fine : Fine σ.till σ.pend N
  pos : 0 ≤ N
  none_ : p = true → σ.pend = [] ∧ ws = []
  wts : ∀ x ∈ ws, 1 ≤ x ∧ x ≤ most
  last : 0 ≤ σ.last ∧ σ.last ≤ most
theorem begin_ok {σ : Wat} {i : Int} (h : (σ.begin_ i).1 = true) : σ.till < i ∧ i ≤ most ∧ (σ.begin_ i).2 = { σ.add i 1 with last := i } := by
  unfold Wat.begin_ at h ⊢
  split
  · rename_i hc; rw [if_pos hc] at h; cases h
  · rename_i hc; exact ⟨by omega, by omega, rfl⟩
theorem manyB_false : ∀ (xs : List Int) (σ : Wat), manyB xs false σ = (false, σ)
  | [], _ => rfl
  | x :: t, σ => by simp [manyB, manyB_false t σ]
theorem manyD_false : ∀ (xs : List Int) (σ : Wat), manyD xs false σ = (false, σ)
  | [], _ => rfl
  | x :: t, σ => by simp [manyD, manyD_false t σ]
theorem addAll_lastIn (d : Int) : ∀ (xs : List Int) (σ : Wat) (x : Int), addAll d xs { σ with last := x } = { addAll d xs σ with last := x }
  | [], _, _ => rfl
  | y :: t, σ, x => addAll_lastIn d t (σ.add y d) x
theorem okAll_lastIn (d N : Int) : ∀ (xs : List Int) (σ : Wat) (x : Int), OkAll d N xs { σ with last := x } → OkAll d N xs σ
  | [], _, _, _ => trivial
  | y :: t, σ, x, ⟨h1, h2, h3, h4, h5⟩ => ⟨h1, h2, h3, h4, okAll_lastIn d N t (σ.add y d) x h5⟩
theorem okAll_mono (d N M : Int) (hm : N ≤ M) : ∀ (xs : List Int) (σ : Wat), OkAll d N xs σ → OkAll d M xs σ
  | [], _, _ => trivial
  | y :: t, σ, ⟨h1, h2, h3, h4, h5⟩ => ⟨h1.mono hm, h2.mono hm, h3, h4, okAll_mono d N M hm t (σ.add y d) h5⟩
theorem manyB_ok : ∀ {xs : List Int} {σ : Wat} {N : Int}, Fine σ.till σ.pend N → 0 ≤ N → (manyB xs true σ).1 = true → xs ≠ [] → OkAll 1 (N + xs.length) xs σ ∧ (manyB xs true σ).2 = { addAll 1 xs σ with last := xs.getD (xs.length - 1) 0 } ∧ ∀ x ∈ xs, 1 ≤ x ∧ x ≤ most
  | [], _, _, _, _, _, hne => absurd rfl hne
  | x :: t, σ, N, hf, hN, h, _ => by
    simp only [manyB, if_true] at h ⊢
    have hb : (σ.begin_ x).1 = true := by
      cases hb : (σ.begin_ x).1 with
      | true => rfl
      | false => rw [hb, manyB_false] at h; exact h
    rw [hb] at h ⊢
    obtain ⟨h1, h2, h3⟩ := begin_ok hb
    have hlo := hf.lo
    have hf2 := hf.ins_begin h1 h2 hN
    have hf3 := (popz_fine hf2).1
    rw [h3] at h ⊢
    by_cases ht : t = []
    · subst ht
      refine ⟨⟨hf.mono (by simp; omega), hf2.mono (by simp), h1, h2, trivial⟩, rfl, fun y hy => ?_⟩
      rw [List.mem_singleton.1 hy]
      exact ⟨by omega, h2⟩
    · have ih := manyB_ok (xs := t) (σ := { σ.add x 1 with last := x }) (N := N + 1) hf3 (by omega) h ht
      obtain ⟨i1, i2, i3⟩ := ih
      have e : N + ((x :: t).length : Int) = (N + 1) + t.length := by simp; omega
      rw [e]
      refine ⟨⟨hf.mono (by omega), hf2.mono (by omega), h1, h2, okAll_lastIn _ _ _ _ x i1⟩, ?_, fun y hy => ?_⟩
      · rw [i2, addAll_lastIn]
        have hl : (x :: t).getD ((x :: t).length - 1) 0 = t.getD (t.length - 1) 0 := by
          cases t with
          | nil => exact absurd rfl ht
          | cons z u => simp
        rw [hl]
        rfl
      · rcases List.mem_cons.1 hy with hy | hy
        · rw [hy]; exact ⟨by omega, h2⟩
        · exact i3 y hy
theorem done_ok {σ : Wat} {i : Int} (h : (σ.done_ i).1 = true) : isOpen σ.pend i = true ∧ (σ.done_ i).2 = σ.add i (-1) := by
  unfold Wat.done_ at h ⊢
  split
  · rename_i hc; exact ⟨hc, rfl⟩
  · rename_i hc; rw [if_neg hc] at h; cases h
theorem open_in {σ : Wat} {i N : Int} (hf : Fine σ.till σ.pend N) (h : isOpen σ.pend i = true) : σ.till < i ∧ i ≤ most := by
  unfold isOpen at h
  cases hc : cnt i σ.pend with
  | none => rw [hc] at h; cases h
  | some c => have := hf.above _ (cnt_some hc); simp only [] at this; omega
theorem manyD_ok : ∀ {xs : List Int} {σ : Wat} {N : Int}, Fine σ.till σ.pend N → (manyD xs true σ).1 = true → OkAll (-1) N xs σ ∧ (manyD xs true σ).2 = addAll (-1) xs σ ∧ ∀ x ∈ xs, 1 ≤ x ∧ x ≤ most
  | [], _, _, _, _ => ⟨trivial, rfl, fun x hx => by cases hx⟩
  | x :: t, σ, N, hf, h => by
    simp only [manyD, if_true] at h ⊢
    have hb : (σ.done_ x).1 = true := by
      cases hb : (σ.done_ x).1 with
      | true => rfl
      | false => rw [hb, manyD_false] at h; exact h
    rw [hb] at h ⊢
    obtain ⟨h1, h3⟩ := done_ok hb
    have hlo := hf.lo
    have hin := open_in hf h1
    have hf2 := hf.ins_done h1
    have hf3 := (popz_fine hf2).1
    rw [h3] at h ⊢
    have ih := manyD_ok (xs := t) (σ := σ.add x (-1)) (N := N) hf3 h
    obtain ⟨i1, i2, i3⟩ := ih
    refine ⟨⟨hf, hf2, hin.1, hin.2, i1⟩, i2, fun y hy => ?_⟩
    rcases List.mem_cons.1 hy with hy | hy
    · rw [hy]; exact ⟨by omega, hin.2⟩
    · exact i3 y hy
theorem add_last (σ : Wat) (i d : Int) : (σ.add i d).last = σ.last := rfl
theorem addAll_last' (d : Int) : ∀ (xs : List Int) (σ : Wat), (addAll d xs σ).last = σ.last
  | [], _ => rfl
  | x :: t, σ => by rw [addAll, addAll_last' d t]; rfl
/-- What holds is kept by each act that is told of. -/
theorem act_inv {p : Bool} {a : S31} {σ : Wat} {ws : List Int} {N : Int} (h : Inv p σ ws N) (hok : (actOk p a σ ws).1 = true) : Inv (a.f0 == 4) (actOk p a σ ws).2.1 (actOk p a σ ws).2.2 (N + weight a) := by
  have hp := h.pos
  have hw : (0 : Int) ≤ weight a := by simp only [weight]; omega
  unfold actOk at hok ⊢
  split
  · rename_i e
    rw [if_pos e] at hok
    obtain ⟨h1, h2, h3⟩ := begin_ok hok
    have hlo := h.fine.lo
    refine ⟨(begin_fine h.fine hp).mono (by simp [weight]; omega), by omega, fun hq => by rw [e] at hq; simp at hq, h.wts, ?_⟩
    simp only [h3]
    exact ⟨by omega, h2⟩
  · rename_i e0
    rw [if_neg e0] at hok
    split
    · rename_i e
      rw [if_pos e] at hok
      refine ⟨(manyB_fine h.fine hp).mono (by simp only [weight]; omega), by omega, fun hq => by rw [e] at hq; simp at hq, h.wts, ?_⟩
      simp only [] at hok
      by_cases hl : 0 < a.f2.length
      · have hl2 : decide (0 < (a.f2.length : Int)) = true := decide_eq_true (by omega)
        rw [hl2] at hok ⊢
        have hne : a.f2 ≠ [] := List.length_pos_iff.1 hl
        obtain ⟨_, i2, i3⟩ := manyB_ok h.fine hp hok hne
        simp only [i2]
        have := i3 (a.f2.getD (a.f2.length - 1) 0) (by rw [List.getD_eq_getElem?_getD, List.getElem?_eq_getElem (by omega)]; exact List.getElem_mem _)
        exact ⟨by omega, this.2⟩
      · have hl2 : decide (0 < (a.f2.length : Int)) = false := decide_eq_false (by omega)
        rw [hl2, manyB_false] at hok
        cases hok
    · rename_i e1
      rw [if_neg e1] at hok
      split
      · rename_i e
        rw [if_pos e] at hok
        obtain ⟨h1, h3⟩ := done_ok hok
        refine ⟨(done_fine h.fine).mono (by simp [weight]; omega), by omega, fun hq => by rw [e] at hq; simp at hq, h.wts, ?_⟩
        simp only [h3]
        exact h.last
      · rename_i e2
        rw [if_neg e2] at hok
        split
        · rename_i e
          rw [if_pos e] at hok
          refine ⟨(manyD_fine h.fine).mono (by simp [weight]; omega), by omega, fun hq => by rw [e] at hq; simp at hq, h.wts, ?_⟩
          simp only [] at hok
          by_cases hl : 0 < a.f2.length
          · have hl2 : decide (0 < (a.f2.length : Int)) = true := decide_eq_true (by omega)
            rw [hl2] at hok ⊢
            obtain ⟨_, i2, _⟩ := manyD_ok h.fine hok
            simp only [i2, addAll_last']
            exact h.last
          · have hl2 : decide (0 < (a.f2.length : Int)) = false := decide_eq_false (by omega)
            rw [hl2, manyD_false] at hok
            cases hok
        · rename_i e3
          rw [if_neg e3] at hok
          split
          · rename_i e
            rw [if_pos e] at hok
            simp only [Bool.and_eq_true, decide_eq_true_eq] at hok
            obtain ⟨⟨k1, k2⟩, k3⟩ := hok
            obtain ⟨n1, n2⟩ := h.none_ k3
            refine ⟨?_, by omega, fun _ => ⟨n1, n2⟩, h.wts, h.last⟩
            simp only [n1]
            exact Fine.nil k1 k2
          · rename_i e4
            rw [if_neg e4] at hok
            split
            · rename_i e
              rw [if_pos e] at hok
              simp only [Bool.and_eq_true, decide_eq_true_eq] at hok
              refine ⟨h.fine.mono (by omega), by omega, fun hq => by rw [e] at hq; simp at hq, fun x hx => ?_, h.last⟩
              rcases List.mem_append.1 hx with hx | hx
              · exact h.wts x hx
              · rw [List.mem_singleton.1 hx]; exact hok
            · rename_i e5
              rw [if_neg e5] at hok
              cases hok
theorem inv0 : Inv true w0 [] 0 := ⟨Fine.nil (by simp [w0]) (by simp [w0, most]), by omega, fun _ => ⟨rfl, rfl⟩, fun x hx => (by cases hx), by simp [w0, most]⟩
end Go.Proofs.Ytimakagmhikhfaa.Sm
