/- An index that is begun some times is done as soon as it is done as many times: the plain law. -/
import Derived.Test.YtimakagmhikhfaaMx8
namespace Go.Proofs.Ytimakagmhikhfaa.Pure
open Go.RowKit Go.Proofs.Ytimakagmhikhfaa.M Go.Proofs.Ytimakagmhikhfaa.Mk Go.Proofs.Ytimakagmhikhfaa.Sm Go.Proofs.YtimakagmhikhfaaW.PrintWords Go.Proofs.YtimakagmhikhfaaW.PrintLast
set_option linter.unusedVariables false
theorem works : laws_marksWork.f = some true := by decide
def bg (x : Int) : S31 := ⟨0, x, []⟩
def dn (x : Int) : S31 := ⟨2, x, []⟩
theorem act_b (p : Bool) (x : Int) (l : List Int) (σ : Wat) (ws : List Int) : actOk p ⟨0, x, l⟩ σ ws = ((σ.begin_ x).1, (σ.begin_ x).2, ws) := by unfold actOk; rw [if_pos rfl]
theorem act_d (p : Bool) (x : Int) (l : List Int) (σ : Wat) (ws : List Int) : actOk p ⟨2, x, l⟩ σ ws = ((σ.done_ x).1, (σ.done_ x).2, ws) := by unfold actOk; rw [if_neg (by simp), if_neg (by simp), if_pos rfl]
theorem step_b0 (p : Bool) (x : Int) (h0 : 1 ≤ x) (h1 : x ≤ most) : actOk p (bg x) w0 [] = (true, ⟨0, x, [(x, 1)]⟩, []) := by
  have hb : w0.begin_ x = (true, ⟨0, x, [(x, 1)]⟩) := by
    unfold Wat.begin_
    rw [if_neg (show ¬ (x ≤ w0.till ∨ most < x) by simp only [w0]; omega)]
    simp [Wat.add, ins, popz, w0]
  rw [bg, act_b, hb]
theorem step_b (p : Bool) (x c : Int) (h0 : 1 ≤ x) (h1 : x ≤ most) (hc : 0 < c) : actOk p (bg x) ⟨0, x, [(x, c)]⟩ [] = (true, ⟨0, x, [(x, c + 1)]⟩, []) := by
  have hb : (Wat.mk 0 x [(x, c)]).begin_ x = (true, ⟨0, x, [(x, c + 1)]⟩) := by
    unfold Wat.begin_
    rw [if_neg (show ¬ (x ≤ (0 : Int) ∨ most < x) by omega)]
    simp [Wat.add, ins, popz, show ¬ c + 1 = 0 by omega]
  rw [bg, act_b, hb]
theorem step_d (p : Bool) (x c : Int) (hc : 1 < c) : actOk p (dn x) ⟨0, x, [(x, c)]⟩ [] = (true, ⟨0, x, [(x, c - 1)]⟩, []) := by
  have hb : (Wat.mk 0 x [(x, c)]).done_ x = (true, ⟨0, x, [(x, c - 1)]⟩) := by
    unfold Wat.done_
    rw [if_pos (by simp [isOpen, cnt]; omega)]
    simp [Wat.add, ins, popz, show ¬ c + -1 = 0 by omega]
    omega
  rw [dn, act_d, hb]
theorem step_d1 (p : Bool) (x : Int) : actOk p (dn x) ⟨0, x, [(x, 1)]⟩ [] = (true, ⟨x, x, []⟩, []) := by
  have hb : (Wat.mk 0 x [(x, 1)]).done_ x = (true, ⟨x, x, []⟩) := by
    unfold Wat.done_
    rw [if_pos (by simp [isOpen, cnt])]
    simp [Wat.add, ins, popz]
  rw [dn, act_d, hb]
theorem run_d (x : Int) : ∀ (n : Nat) (p : Bool), run p (List.replicate (n + 1) (dn x)) ⟨0, x, [(x, (n : Int) + 1)]⟩ [] = some (List.replicate n ⟨0, x, 1, 0, []⟩ ++ [⟨x, x, 0, 0, []⟩])
  | 0, p => by
    have h := step_d1 p x
    simp [run, h, markOf]
  | n + 1, p => by
    have h := step_d p x ((n : Int) + 1 + 1) (by omega)
    have e : ((n + 1 : Nat) : Int) + 1 = (n : Int) + 1 + 1 := by omega
    have e2 : (n : Int) + 1 + 1 - 1 = (n : Int) + 1 := by omega
    rw [List.replicate_succ, run, e, h]
    simp only [if_true, e2]
    rw [run_d x n (((dn x).f0) == 4)]
    simp [List.replicate_succ, markOf]
theorem run_b (x : Int) (h0 : 1 ≤ x) (h1 : x ≤ most) (t : List S31) (r : List S34) (N : Int) (hr : ∀ p, run p t ⟨0, x, [(x, N)]⟩ [] = some r) : ∀ (n : Nat) (c : Int) (p : Bool), 0 < c → c + n = N → run p (List.replicate n (bg x) ++ t) ⟨0, x, [(x, c)]⟩ [] = some (List.replicate n ⟨0, x, 1, 0, []⟩ ++ r)
  | 0, c, p, hc, he => by
    have : c = N := by omega
    subst this
    simpa using hr p
  | n + 1, c, p, hc, he => by
    rw [List.replicate_succ, List.cons_append, run, step_b p x c h0 h1 hc]
    have ih := run_b x h0 h1 t r N hr n (c + 1) (((bg x).f0) == 4) (by omega) (by omega)
    simp only [if_true, ih, Option.map_some, List.replicate_succ, List.cons_append]
    simp [markOf]
theorem run_all (x : Int) (h0 : 1 ≤ x) (h1 : x ≤ most) (n : Nat) : run true (List.replicate (n + 1) (bg x) ++ List.replicate (n + 1) (dn x)) w0 [] = some (List.replicate (n + 1) ⟨0, x, 1, 0, []⟩ ++ (List.replicate n ⟨0, x, 1, 0, []⟩ ++ [⟨x, x, 0, 0, []⟩])) := by
  rw [List.replicate_succ, List.cons_append, run, step_b0 true x h0 h1]
  have h := run_b x h0 h1 (List.replicate (n + 1) (dn x)) _ ((n : Int) + 1) (run_d x n) n 1 (((bg x).f0) == 4) (by omega) (by omega)
  simp only [if_true]
  rw [h]
  simp [List.replicate_succ, markOf]
theorem l0_go (x : Int) (n : Nat) (hn : n ≤ 1000) (K : Nat) : ∀ (d m : Nat) (acc : List S31), m + d = n → acc.length + d ≤ 2000 → laws_FnMarkTwice.l0 (d + 1 + K) x (n : Int) acc (m : Int) = laws_FnMarkTwice.l1 (K) x (n : Int) (acc ++ List.replicate d (bg x)) 0
  | 0, m, acc, hm, hl => by
    have : m = n := by omega
    subst this
    rw [show 0 + 1 + K = K + 1 by omega, laws_FnMarkTwice.l0, if_neg (by omega)]
    simp
  | d + 1, m, acc, hm, hl => by
    rw [show d + 1 + 1 + K = (d + 1 + K) + 1 by omega, laws_FnMarkTwice.l0, if_pos (by omega), if_pos (by omega)]
    have e : wrap64 ((m : Int) + 1) = ((m + 1 : Nat) : Int) := by unfold wrap64; omega
    rw [e, l0_go x n hn K d (m + 1) _ (by omega) (by simp; omega)]
    simp [List.replicate_succ, bg]
theorem l1_go (x : Int) (n : Nat) (hn : n ≤ 1000) (K : Nat) (R : List S31 → Option Bool) (hR : ∀ l, laws_FnMarkTwice.l1 (K + 1) x (n : Int) l (n : Int) = R l) : ∀ (d m : Nat) (acc : List S31), m + d = n → acc.length + d ≤ 2000 → laws_FnMarkTwice.l1 (d + 1 + K) x (n : Int) acc (m : Int) = R (acc ++ List.replicate d (dn x))
  | 0, m, acc, hm, hl => by
    have : m = n := by omega
    subst this
    rw [show 0 + 1 + K = K + 1 by omega, hR]
    simp
  | d + 1, m, acc, hm, hl => by
    rw [show d + 1 + 1 + K = (d + 1 + K) + 1 by omega, laws_FnMarkTwice.l1, if_pos (by omega), if_pos (by omega)]
    have e : wrap64 ((m : Int) + 1) = ((m + 1 : Nat) : Int) := by unfold wrap64; omega
    rw [e, l1_go x n hn K R hR d (m + 1) _ (by omega) (by simp; omega)]
    simp [List.replicate_succ, dn]
def lst (x : Int) (n : Nat) : List S34 := List.replicate (2 * n + 1) ⟨0, x, 1, 0, []⟩ ++ [⟨x, x, 0, 0, []⟩]
theorem lst_len (x : Int) (n : Nat) : (lst x n).length = 2 * (n + 1) := by simp [lst]; omega
theorem lst_low (x : Int) (n m : Nat) (h : m < 2 * n + 1) : rd_T34 (lst x n) (m : Int) = ⟨0, x, 1, 0, []⟩ := by
  simp [rd_T34, lst, List.getElem?_append, h]
theorem lst_high (x : Int) (n : Nat) : rd_T34 (lst x n) ((2 * n + 1 : Nat) : Int) = ⟨x, x, 0, 0, []⟩ := by
  simp only [rd_T34, lst, Int.toNat_natCast, List.getD_eq_getElem?_getD]
  rw [List.getElem?_append_right (by simp)]
  simp
theorem l2_go (x : Int) (hx : 1 ≤ x) (n : Nat) (hn : n + 1 ≤ 1000) (K : Nat) : ∀ (d m : Nat), m + d = 2 * (n + 1) → laws_FnMarkTwice.l2 (d + 1 + K) x ((n + 1 : Nat) : Int) (lst x n) ((lst x n).length : Int) (m : Int) = some true
  | 0, m, hm => by
    have e1 : wrap64 ((wrap64 (2 * ((n + 1 : Nat) : Int))) - 1) = ((2 * n + 1 : Nat) : Int) := by unfold wrap64; omega
    rw [show 0 + 1 + K = K + 1 by omega, laws_FnMarkTwice.l2, e1, lst_len, lst_high]
    rw [if_neg (by omega), if_pos (by omega), if_pos (by omega), if_pos rfl, if_pos rfl, works]
    rfl
  | d + 1, m, hm => by
    have e1 : wrap64 ((wrap64 (2 * ((n + 1 : Nat) : Int))) - 1) = ((2 * n + 1 : Nat) : Int) := by unfold wrap64; omega
    have e2 : wrap64 ((m : Int) + 1) = ((m + 1 : Nat) : Int) := by unfold wrap64; omega
    have ih := l2_go x hx n hn K d (m + 1) (by omega)
    rw [show d + 1 + 1 + K = (d + 1 + K) + 1 by omega, laws_FnMarkTwice.l2, e1, e2, ih]
    rw [lst_len]
    rw [if_pos (by omega), if_pos (by omega), if_pos (by omega)]
    by_cases h : m < 2 * n + 1
    · rw [lst_low x n m h, if_pos rfl]
    · rw [show m = 2 * n + 1 by omega, lst_high, if_neg (by simp only []; omega), if_neg (by omega)]
theorem tot_rep (x : Int) (n : Nat) (a : S31) (ha : a.f2 = []) : tot (List.replicate n a) = n := by
  induction n with
  | zero => rfl
  | succ n ih =>
    simp only [tot] at ih
    simp only [tot, List.replicate_succ, List.map_cons, List.sum_cons, ih, weight, ha]
    simp
    omega
theorem tot_app (a b : List S31) : tot (a ++ b) = tot a + tot b := by simp [tot]
theorem impl_all (x : Int) (h0 : 1 ≤ x) (h1 : x ≤ most) (n : Nat) (hn : n + 1 ≤ 1000) : impl_RunMarks.f (List.replicate (n + 1) (bg x) ++ List.replicate (n + 1) (dn x)) = some (lst x n) := by
  unfold impl_RunMarks.f
  rw [if_pos (by rw [tot_app, tot_rep x _ _ rfl, tot_rep x _ _ rfl]; omega), run_all x h0 h1]
  congr 1
  rw [← List.append_assoc, List.replicate_append_replicate]
  simp only [lst]
  congr 2
  omega
theorem within_f (a lo hi : Int) : spec_Within.f a lo hi = some (decide (lo ≤ a ∧ a ≤ hi)) := by
  unfold spec_Within.f
  by_cases h : a ≥ lo
  · rw [if_pos h]; congr 1; exact decide_eq_decide.2 ⟨fun h2 => ⟨h, h2⟩, fun h2 => h2.2⟩
  · rw [if_neg h]; congr 1; exact (decide_eq_false (fun h2 => h h2.1)).symm
theorem FnMarkTwice : laws_FnMarkTwice.Pure := by
  intro x N wx wN
  by_cases hx : 1 ≤ x ∧ x ≤ 1099511627776
  · by_cases hN : 1 ≤ N ∧ N ≤ 1000
    · obtain ⟨n, rfl⟩ : ∃ n : Nat, N = ((n + 1 : Nat) : Int) := ⟨(N - 1).toNat, by omega⟩
      have hn : n + 1 ≤ 1000 := by omega
      have key : laws_FnMarkTwice.l0 ((n + 1) + 1 + ((n + 1) + 1 + (2 * (n + 1) + 1))) x ((n + 1 : Nat) : Int) [] 0 = some true := by
        have h0 := l0_go x (n + 1) hn ((n + 1) + 1 + (2 * (n + 1) + 1)) (n + 1) 0 [] (by omega) (by simp; omega)
        rw [show ((0 : Nat) : Int) = 0 from rfl] at h0
        rw [h0, List.nil_append]
        have h1 := l1_go x (n + 1) hn (2 * (n + 1) + 1) (fun l => laws_FnMarkTwice.l1 (2 * (n + 1) + 1 + 1) x ((n + 1 : Nat) : Int) l ((n + 1 : Nat) : Int)) (fun _ => rfl) (n + 1) 0 (List.replicate (n + 1) (bg x)) (by omega) (by simp; omega)
        rw [show ((0 : Nat) : Int) = 0 from rfl] at h1
        rw [h1]
        rw [laws_FnMarkTwice.l1, if_neg (by omega), impl_all x hx.1 hx.2 n hn, Option.bind_some, lst_len]
        rw [if_pos (by unfold wrap64; omega)]
        have h2 := l2_go x hx.1 n hn 0 (2 * (n + 1)) 0 (by omega)
        rw [lst_len] at h2
        exact h2
      refine ⟨((n + 1) + 1 + ((n + 1) + 1 + (2 * (n + 1) + 1))) + 1, ?_⟩
      have e1 : spec_Within.f x 1 1099511627776 = some true := by rw [within_f, decide_eq_true hx]
      have e2 : spec_Within.f ((n + 1 : Nat) : Int) 1 1000 = some true := by rw [within_f, decide_eq_true hN]
      unfold laws_FnMarkTwice.f
      rw [e1, Option.bind_some, if_pos rfl, e2, Option.bind_some, laws_FnMarkTwice.j0, if_neg (by simp)]
      exact key
    · refine ⟨1, ?_⟩
      have e1 : spec_Within.f x 1 1099511627776 = some true := by rw [within_f, decide_eq_true hx]
      have e2 : spec_Within.f N 1 1000 = some false := by rw [within_f, decide_eq_false hN]
      unfold laws_FnMarkTwice.f
      rw [e1, Option.bind_some, if_pos rfl, e2, Option.bind_some, laws_FnMarkTwice.j0, if_pos (by rfl), works]
      rfl
  · refine ⟨1, ?_⟩
    have e1 : spec_Within.f x 1 1099511627776 = some false := by rw [within_f, decide_eq_false hx]
    unfold laws_FnMarkTwice.f
    rw [e1, Option.bind_some, if_neg (by simp), laws_FnMarkTwice.j0, if_pos rfl, works]
    rfl
end Go.Proofs.Ytimakagmhikhfaa.Pure
