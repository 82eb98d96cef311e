/- Rows whose elements are one cell each and are not looked into. -/
import Derived.Test.YtnineoajmgneiaaGreatZj
namespace Go.Proofs.YtnineoajmgneiaaGreat.Ov
open Go.RowKit YtnineoajmgneiaaGreatW YtnineoajmgneiaaGreatW.PrintWords YtnineoajmgneiaaGreatW.PrintLast YtnineoajmgneiaaGreatW.PrintMore Fr L Ky Tm Lm It Tg Tp Tl Lk Lo
set_option linter.unusedVariables false
set_option linter.unusedSimpArgs false
/-- A value of one cell as it is; any other as 0. -/
def ov (v : Value) : Value := if v.oneCell' = true then v else .int .i64 0
theorem ov_one (v : Value) : (ov v).oneCell' = true := by
  unfold ov
  split
  · assumption
  · rfl
theorem ov_of {v : Value} (h : v.oneCell' = true) : ov v = v := by unfold ov; rw [if_pos h]
def kO : Kd Value := Kd.scalar ov ov_one
variable {α : Type} {d : Kd α} {w : World} {A : Option Addr} {n : Nat} {xs : List α} {ys : List Value}
theorem row_of (hs : d.sz = 1) (h : Kd.C d w A n xs) : ∃ ys : List Value, Kd.C kO w A n ys ∧ ∀ (j : Nat) (x : α) (y : Value), xs[j]? = some x → ys[j]? = some y → d.K w x [ov y] := by
  rcases Nat.eq_zero_or_pos n with h0 | h0
  · subst h0
    exact ⟨[], ⟨rfl, by omega, fun h => absurd h (Nat.lt_irrefl 0)⟩, fun j x y _ hy => by simp at hy⟩
  · obtain ⟨ad, e, hc⟩ := h.2.2 h0
    have hv : ∀ j, j < n → ∃ x y, xs[j]? = some x ∧ w.cell? (ad.add j) = some y ∧ y.oneCell' = true ∧ d.K w x [y] := by
      intro j hj
      obtain ⟨x, hx⟩ : ∃ x, xs[j]? = some x := ⟨_, List.getElem?_eq_getElem (by rw [h.1]; exact hj)⟩
      obtain ⟨c, hcl, hK, hcell⟩ := hc j x hx
      rw [hs] at hcl hcell
      obtain ⟨y, rfl⟩ : ∃ y, c = [y] := by
        match c, hcl with
        | [y], _ => exact ⟨y, rfl⟩
      refine ⟨x, y, hx, ?_, d.K_one hK y (by simp), hK⟩
      have := hcell 0 y rfl
      rw [Nat.mul_one, Nat.add_zero] at this
      exact this
    refine ⟨(List.range n).map (fun j => (w.cell? (ad.add j)).getD (.int .i64 0)), ⟨by simp, h.2.1, fun _ => ⟨ad, e, fun j p hj => ?_⟩⟩, fun j x y hx hy => ?_⟩
    · have hjn : j < n := by
        have := (List.getElem?_eq_some_iff.1 hj).1
        simpa using this
      obtain ⟨x, y, hx, hy, h1, hK⟩ := hv j hjn
      simp [hjn, hy] at hj
      subst hj
      refine ⟨[ov y], rfl, rfl, fun i u hu => ?_⟩
      cases i with
      | zero =>
        simp at hu
        subst hu
        rw [ov_of h1, show kO.sz = 1 from rfl, Nat.mul_one, Nat.add_zero]
        exact hy
      | succ i => simp at hu
    · have hjn : j < n := by rw [← h.1]; exact (List.getElem?_eq_some_iff.1 hx).1
      obtain ⟨x', y', hx', hy', h1, hK⟩ := hv j hjn
      rw [hx] at hx'
      injection hx' with hx'
      subst hx'
      simp [hjn, hy'] at hy
      subst hy
      rw [ov_of h1]
      exact hK
theorem row_back (hs : d.sz = 1) (h : Kd.C kO w A n ys) (hl : xs.length = n) (hk : ∀ (j : Nat) (x : α) (y : Value), xs[j]? = some x → ys[j]? = some y → d.K w x [ov y]) : Kd.C d w A n xs := by
  refine ⟨hl, h.2.1, fun hn => ?_⟩
  obtain ⟨ad, e, hc⟩ := h.2.2 hn
  refine ⟨ad, e, fun j x hj => ?_⟩
  have hj2 : j < ys.length := by rw [h.1, ← hl]; exact (List.getElem?_eq_some_iff.1 hj).1
  obtain ⟨c, hcl, hK, hcell⟩ := hc j _ (List.getElem?_eq_getElem hj2)
  have hK : c = [ov ys[j]] := hK
  subst hK
  refine ⟨_, by rw [hs]; rfl, hk j x _ hj (List.getElem?_eq_getElem hj2), fun i u hu => ?_⟩
  rw [hs]
  exact hcell i u hu
end Go.Proofs.YtnineoajmgneiaaGreat.Ov
