/- Many indices at once are as one behind the other: the plain law. -/
import Derived.Test.YtimakagmhikhfaaPc
namespace Go.Proofs.Ytimakagmhikhfaa.Many
open Go.Proofs.Ytimakagmhikhfaa.M Go.Proofs.Ytimakagmhikhfaa.Mk Go.Proofs.Ytimakagmhikhfaa.Sm
set_option linter.unusedVariables false
def one (k x : Int) : S31 := ⟨k, x, []⟩
def parts (a : S31) : List S31 := if a.f0 = 1 then a.f2.map (one 0) else if a.f0 = 3 then a.f2.map (one 2) else [a]
def singles (l : List S31) : List S31 := l.flatMap parts
theorem act_one0 (p : Bool) (x : Int) (σ : Wat) (ws : List Int) : actOk p (one 0 x) σ ws = ((σ.begin_ x).1, (σ.begin_ x).2, ws) := by unfold actOk one; rw [if_pos rfl]
theorem act_one2 (p : Bool) (x : Int) (σ : Wat) (ws : List Int) : actOk p (one 2 x) σ ws = ((σ.done_ x).1, (σ.done_ x).2, ws) := by unfold actOk one; rw [if_neg (by simp), if_neg (by simp), if_pos rfl]
theorem runB (ws : List Int) (T : List S31) (s : List S34) : ∀ (xs : List Int) (p : Bool) (σ : Wat), xs ≠ [] → (manyB xs true σ).1 = true → run false T (manyB xs true σ).2 ws = some s → ∃ ms, run p (xs.map (one 0) ++ T) σ ws = some (ms ++ s) ∧ ms.length = xs.length ∧ ms.getLast? = some (markOf (manyB xs true σ).2 ws)
  | [], p, σ, h, _, _ => absurd rfl h
  | x :: t, p, σ, _, h, hs => by
    simp only [manyB, if_true] at h hs ⊢
    have hb : (σ.begin_ x).1 = true := by
      cases hb : (σ.begin_ x).1 with
      | true => rfl
      | false => rw [hb, manyB_false] at h; exact h
    rw [hb] at h hs ⊢
    by_cases ht : t = []
    · subst ht
      simp only [manyB] at hs ⊢
      refine ⟨[markOf (σ.begin_ x).2 ws], ?_, rfl, rfl⟩
      simp only [List.map_cons, List.map_nil, List.cons_append, List.nil_append, run, act_one0, hb, if_true]
      rw [show ((one 0 x).f0 == 4) = false from rfl, hs]
      rfl
    · obtain ⟨ms, h1, h2, h3⟩ := runB ws T s t false (σ.begin_ x).2 ht h hs
      refine ⟨markOf (σ.begin_ x).2 ws :: ms, ?_, by simp [h2], ?_⟩
      · simp only [List.map_cons, List.cons_append, run, act_one0, hb, if_true]
        rw [show ((one 0 x).f0 == 4) = false from rfl, h1]
        rfl
      · cases ms with
        | nil => cases h3
        | cons m ms => simpa using h3
theorem runD (ws : List Int) (T : List S31) (s : List S34) : ∀ (xs : List Int) (p : Bool) (σ : Wat), xs ≠ [] → (manyD xs true σ).1 = true → run false T (manyD xs true σ).2 ws = some s → ∃ ms, run p (xs.map (one 2) ++ T) σ ws = some (ms ++ s) ∧ ms.length = xs.length ∧ ms.getLast? = some (markOf (manyD xs true σ).2 ws)
  | [], p, σ, h, _, _ => absurd rfl h
  | x :: t, p, σ, _, h, hs => by
    simp only [manyD, if_true] at h hs ⊢
    have hb : (σ.done_ x).1 = true := by
      cases hb : (σ.done_ x).1 with
      | true => rfl
      | false => rw [hb, manyD_false] at h; exact h
    rw [hb] at h hs ⊢
    by_cases ht : t = []
    · subst ht
      simp only [manyD] at hs ⊢
      refine ⟨[markOf (σ.done_ x).2 ws], ?_, rfl, rfl⟩
      simp only [List.map_cons, List.map_nil, List.cons_append, List.nil_append, run, act_one2, hb, if_true]
      rw [show ((one 2 x).f0 == 4) = false from rfl, hs]
      rfl
    · obtain ⟨ms, h1, h2, h3⟩ := runD ws T s t false (σ.done_ x).2 ht h hs
      refine ⟨markOf (σ.done_ x).2 ws :: ms, ?_, by simp [h2], ?_⟩
      · simp only [List.map_cons, List.cons_append, run, act_one2, hb, if_true]
        rw [show ((one 2 x).f0 == 4) = false from rfl, h1]
        rfl
      · cases ms with
        | nil => cases h3
        | cons m ms => simpa using h3
/-- Behind the acts one behind the other all is told as behind the acts of many. -/
theorem last_app {ms s : List S34} {m : S34} (h : ms.getLast? = some m) (h2 : s = []) : (ms ++ s).getLast? = some m := by subst h2; simpa using h
theorem run_singles : ∀ (l : List S31) (p : Bool) (σ : Wat) (ws : List Int) (r : List S34), run p l σ ws = some r → ∃ s, run p (singles l) σ ws = some s ∧ r.length ≤ s.length ∧ (s = [] ↔ r = []) ∧ ∀ m, r.getLast? = some m → s.getLast? = some m
  | [], p, σ, ws, r, h => by
    simp [run] at h
    subst h
    exact ⟨[], rfl, Nat.le_refl _, Iff.rfl, fun m hm => hm⟩
  | a :: t, p, σ, ws, r, h => by
    simp only [run] at h
    split at h
    · rename_i hok
      obtain ⟨r2, h2, rfl⟩ := Option.map_eq_some_iff.1 h
      obtain ⟨s2, g1, g2, g3, g4⟩ := run_singles t _ _ _ r2 h2
      have hsing : singles (a :: t) = parts a ++ singles t := by simp [singles]
      rw [hsing]
      -- what stands ahead of the rest
      have fin : ∀ ms : List S34, run p (parts a ++ singles t) σ ws = some (ms ++ s2) → 1 ≤ ms.length → ms.getLast? = some (markOf (actOk p a σ ws).2.1 (actOk p a σ ws).2.2) → ∃ s, run p (parts a ++ singles t) σ ws = some s ∧ (markOf (actOk p a σ ws).2.1 (actOk p a σ ws).2.2 :: r2).length ≤ s.length ∧ (s = [] ↔ markOf (actOk p a σ ws).2.1 (actOk p a σ ws).2.2 :: r2 = []) ∧ ∀ m, (markOf (actOk p a σ ws).2.1 (actOk p a σ ws).2.2 :: r2).getLast? = some m → s.getLast? = some m := by
        intro ms e1 e2 e3
        refine ⟨ms ++ s2, e1, by simp; omega, ?_, fun m hm => ?_⟩
        · constructor
          · intro e; rw [(List.append_eq_nil_iff.1 e).1] at e2; simp at e2
          · intro e; cases e
        · by_cases hr : r2 = []
          · have hs := g3.2 hr
            subst hr
            rw [last_app e3 hs]
            simpa using hm
          · obtain ⟨q, q2, rfl⟩ : ∃ q q2, r2 = q :: q2 := by
              cases r2 with
              | nil => exact absurd rfl hr
              | cons q q2 => exact ⟨q, q2, rfl⟩
            have hm2 : (q :: q2).getLast? = some m := by simpa [List.getLast?_cons_cons] using hm
            have h5 := g4 m hm2
            have hne : s2 ≠ [] := fun e => by rw [e] at h5; cases h5
            rw [List.getLast?_append, h5]
            rfl
      by_cases e1 : a.f0 = 1
      · have hp4 : (a.f0 == 4) = false := by rw [e1]; rfl
        rw [hp4] at g1
        have hparts : parts a = a.f2.map (one 0) := by unfold parts; rw [if_pos e1]
        have hact : actOk p a σ ws = ((manyB a.f2 (decide (0 < (a.f2.length : Int))) σ).1, (manyB a.f2 (decide (0 < (a.f2.length : Int))) σ).2, ws) := by
          unfold actOk; rw [if_neg (by omega), if_pos e1]
        rw [hact] at hok g1 fin ⊢
        simp only [] at hok g1 fin ⊢
        by_cases hl : 0 < (a.f2.length : Int)
        · rw [decide_eq_true hl] at hok g1 fin ⊢
          have hne : a.f2 ≠ [] := fun e => by rw [e] at hl; simp at hl
          obtain ⟨ms, m1, m2, m3⟩ := runB ws (singles t) s2 a.f2 p σ hne hok g1
          rw [hparts] at fin ⊢
          exact fin ms m1 (by omega) m3
        · rw [decide_eq_false hl, manyB_false] at hok
          cases hok
      · by_cases e3 : a.f0 = 3
        · have hp4 : (a.f0 == 4) = false := by rw [e3]; rfl
          rw [hp4] at g1
          have hparts : parts a = a.f2.map (one 2) := by unfold parts; rw [if_neg e1, if_pos e3]
          have hact : actOk p a σ ws = ((manyD a.f2 (decide (0 < (a.f2.length : Int))) σ).1, (manyD a.f2 (decide (0 < (a.f2.length : Int))) σ).2, ws) := by
            unfold actOk; rw [if_neg (by omega), if_neg e1, if_neg (by omega), if_pos e3]
          rw [hact] at hok g1 fin ⊢
          simp only [] at hok g1 fin ⊢
          by_cases hl : 0 < (a.f2.length : Int)
          · rw [decide_eq_true hl] at hok g1 fin ⊢
            have hne : a.f2 ≠ [] := fun e => by rw [e] at hl; simp at hl
            obtain ⟨ms, m1, m2, m3⟩ := runD ws (singles t) s2 a.f2 p σ hne hok g1
            rw [hparts] at fin ⊢
            exact fin ms m1 (by omega) m3
          · rw [decide_eq_false hl, manyD_false] at hok
            cases hok
        · have hparts : parts a = [a] := by unfold parts; rw [if_neg e1, if_neg e3]
          rw [hparts] at fin ⊢
          refine fin [markOf (actOk p a σ ws).2.1 (actOk p a σ ws).2.2] ?_ (by simp) rfl
          simp only [List.cons_append, List.nil_append, run]
          rw [if_pos hok, g1]
          rfl
    · cases h
theorem tot_one (k : Int) : ∀ xs : List Int, tot (xs.map (one k)) = xs.length
  | [] => rfl
  | x :: t => by
    have := tot_one k t
    simp only [tot] at this
    simp only [tot, List.map_cons, List.sum_cons, this, weight, one, List.length_cons, List.length_nil]
    omega
theorem tot_append (a b : List S31) : tot (a ++ b) = tot a + tot b := by simp [tot]
theorem tot_parts (a : S31) : tot (parts a) ≤ weight a := by
  unfold parts
  split
  · rw [tot_one]; simp [weight]
  · split
    · rw [tot_one]; simp [weight]
    · simp [tot]
theorem tot_singles : ∀ l : List S31, tot (singles l) ≤ tot l
  | [] => Nat.le_refl _
  | a :: t => by
    have ih := tot_singles t
    have h1 := tot_parts a
    have hsing : singles (a :: t) = parts a ++ singles t := by simp [singles]
    rw [hsing, tot_append]
    have e : tot (a :: t) = weight a + tot t := by simp [tot]
    omega
end Go.Proofs.Ytimakagmhikhfaa.Many
