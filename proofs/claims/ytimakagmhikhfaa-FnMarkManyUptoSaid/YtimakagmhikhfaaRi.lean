/- What is at the head of each round of RunMarks, and how each step keeps it. -/
import Derived.Test.YtimakagmhikhfaaMt
import Derived.Test.YtimakagmhikhfaaSm
import Derived.Test.YtimakagmhikhfaaNu
namespace Go.Proofs.Ytimakagmhikhfaa.Ri
open Go.RowKit Go.Proofs.YtimakagmhikhfaaW.PrintWords Go.Proofs.YtimakagmhikhfaaW.PrintLast Go.Proofs.YtimakagmhikhfaaW.PrintMore Go.Proofs.Ytimakagmhikhfaa.M Go.Proofs.Ytimakagmhikhfaa.Mk Go.Proofs.Ytimakagmhikhfaa.Fr Go.Proofs.Ytimakagmhikhfaa.Hp Go.Proofs.Ytimakagmhikhfaa.Wt Go.Proofs.Ytimakagmhikhfaa.Px Go.Proofs.Ytimakagmhikhfaa.Pr Go.Proofs.Ytimakagmhikhfaa.Ms Go.Proofs.Ytimakagmhikhfaa.Mt Go.Proofs.Ytimakagmhikhfaa.Sm
set_option linter.unusedVariables false
set_option linter.unusedSimpArgs false
/-- The mark behind what writes none of its blocks. -/
theorem St.kpT {w w1 : World} {T S : Nat → Prop} {wb : Nat} {σ : Wat} {ws : Wl} (h : St w T wb σ ws) (hk : Kp w w1 S) (hd : ∀ k, T k → ¬ S k) : St w1 T wb σ ws := by
  obtain ⟨pb, qb, nm, v, hs, l, es, ck, hX, hR, hT⟩ := h
  obtain ⟨pes, pck, h1, h2⟩ := hX.pm
  refine ⟨pb, qb, nm, v, hs, l, es, ck, ⟨?_, hk.blk hX.hw (hd _ hX.tw), ⟨pes, pck, hk.blk h1 (hd _ hX.tp), h2⟩, ⟨hX.wr.en.kp hk (hd _ hX.wr.tq) hd, hX.wr.fl.kp hk (fun p hp => hd _ (hX.wr.tw p hp)), hX.wr.nd, hX.wr.tq, hX.wr.tw⟩, hX.ne, hX.tv, hX.tw, hX.tp⟩, hR, fun k hk2 => Nat.lt_of_lt_of_le (hT k hk2) hk.size⟩
  exact Kd.R_mono (Kd.R_kept (Kd.R_tight rfl hX.hr) hk.kept (fun k hk2 => hd k (hX.tv k hk2.symm))) (fun _ _ => trivial)
theorem St.bound {w : World} {T : Nat → Prop} {wb : Nat} {σ : Wat} {ws : Wl} (h : St w T wb σ ws) : ∀ k, T k → k < w.heap.size := by
  obtain ⟨pb, qb, nm, v, hs, l, es, ck, hX, hR, hT⟩ := h
  exact hT
theorem St.flags {w : World} {T : Nat → Prop} {wb : Nat} {σ : Wat} {ws : Wl} (h : St w T wb σ ws) : ∀ p ∈ ws, w.heap[p.2]? = some (.cells #[.bool (decide (p.1 ≤ σ.till))] 62 (0, 0)) ∧ T p.2 := by
  obtain ⟨pb, qb, nm, v, hs, l, es, ck, hX, hR, hT⟩ := h
  exact fun p hp => ⟨hX.wr.fl p hp, hX.wr.tw p hp⟩
/-- What is at the head of each round. -/
structure IM (w wr : World) (T : Nat → Prop) (wb : Nat) (σ : Wat) (ws : Wl) (xs : List Nat) (out : List S34) (v4 v5 : Value) : Prop where
  st : St wr T wb σ ws
  tb : ∀ k, T k → w.heap.size ≤ k
  r4 : ptrK.R 57 wr w.heap.size (fun k => ¬ T k) v4 xs
  s5 : Kd.S k34 34 wr w.heap.size (fun k => ¬ T k) v5 out
  bl : Below w.heap.size w wr
theorem IM.keep {w wr w1 : World} {T : Nat → Prop} {wb : Nat} {σ : Wat} {ws : Wl} {xs : List Nat} {out : List S34} {v4 v5 : Value} (h : IM w wr T wb σ ws xs out v4 v5) (hk : Kp wr w1 (fun _ => False)) : IM w w1 T wb σ ws xs out v4 v5 :=
  ⟨St.kpT h.st hk (fun _ _ h => h), h.tb, Kd.R_kept h.r4 hk.kept (fun _ _ h => h), Kd.S_kept h.s5 hk.kept (fun _ _ h => h), h.bl.trans (hk.toBelowB h.bl.size (fun _ h => h.elim))⟩
theorem IM.step {w wr w1 : World} {T : Nat → Prop} {wb : Nat} {σ σ2 : Wat} {ws ws2 : Wl} {xs : List Nat} {out : List S34} {v4 v5 : Value} (h : IM w wr T wb σ ws xs out v4 v5) (hl : Ms.Left wr T wb σ2 ws2 w1) (hb : ∀ p ∈ ws2, w.heap.size ≤ p.2) : ∃ T2, IM w w1 T2 wb σ2 ws2 xs out v4 v5 := by
  obtain ⟨T2, hst, hS, hk⟩ := hl
  have hf := St.flags hst
  have key : ∀ k q cells, ¬ T k → k < wr.heap.size → wr.heap[k]? = some (.cells cells q (0, 0)) → q ≠ 62 → ¬ T2 k := by
    intro k q cells h1 h2 h3 h4 h5
    rcases hS k h5 with h | h | ⟨p, hp, h⟩
    · exact h1 h
    · omega
    · have g := (hf p hp).1
      rw [h, hk.k k h2 h1, h3] at g
      injection g with g
      injection g with _ g
      exact h4 g
  refine ⟨T2, hst, fun k hk2 => ?_, ?_, ?_, h.bl.trans (hk.toBelowB h.bl.size h.tb)⟩
  · rcases hS k hk2 with h1 | h1 | ⟨p, hp, h1⟩
    · exact h.tb k h1
    · exact Nat.le_trans h.bl.size h1
    · rw [← h1]; exact hb p hp
  · refine Kd.R_mono (Kd.R_kept (Kd.R_mono (Kd.R_bound h.r4) (ok' := fun k => ¬ T k ∧ ¬ T2 k) ?_) hk.kept (fun _ h => h.1)) (fun _ h => h.2)
    rintro k ⟨h1, _, h2, q, hq, cells, hc⟩
    have : q ∈ [57] := hq
    exact ⟨h1, key k q cells h1 h2 hc (fun e => by rw [e] at this; simp at this)⟩
  · refine Kd.S_mono (Kd.S_kept (Kd.S_mono (Kd.S_bound h.s5) (ok' := fun k => ¬ T k ∧ ¬ T2 k) ?_) hk.kept (fun _ h => h.1)) (fun _ h => h.2)
    rintro k ⟨h1, _, h2, q, hq, cells, hc⟩
    have : q ∈ [34, 4] := hq
    exact ⟨h1, key k q cells h1 h2 hc (fun e => by rw [e] at this; simp at this)⟩
theorem u64_id {x : Int} (h0 : 0 ≤ x) (h1 : x ≤ 1099511627776) : IntKind.u64.wrap x = x := by
  simp [IntKind.wrap, IntKind.bits, IntKind.signed]
  omega
/-! ### numbers -/
theorem nums_go (xs : List Int) (hx0 : xs.length ≤ 17592186044416) : ∀ (d n : Nat) (acc : List Int), n + d = xs.length → acc.length + d ≤ 17592186044416 → impl_numbers.l0 (d + 1) acc xs (xs.length : Int) (n : Int) = some (acc ++ (xs.drop n).map IntKind.u64.wrap)
  | 0, n, acc, h, _ => by
    have : n = xs.length := by omega
    subst this
    simp [impl_numbers.l0]
  | d + 1, n, acc, h, hl => by
    have hn : n < xs.length := by omega
    have ih := nums_go xs hx0 d (n + 1) (acc ++ [IntKind.u64.wrap (rd xs (n : Int))]) (by omega) (by simp; omega)
    have hx : xs.drop n = rd xs (n : Int) :: xs.drop (n + 1) := by rw [List.drop_eq_getElem_cons hn]; simp [rd, hn]
    rw [impl_numbers.l0]
    rw [if_pos (by omega), if_pos (by omega), if_pos (by omega), if_pos (by omega)]
    have e : wrap64 ((n : Int) + 1) = ((n + 1 : Nat) : Int) := by
      unfold Go.RowKit.wrap64; omega
    rw [e, ih, hx]
    simp
theorem nums_f (xs : List Int) (hl : xs.length ≤ 17592186044416) (h : ∀ x ∈ xs, 1 ≤ x ∧ x ≤ most) : impl_numbers.f (xs.length + 1) xs = some xs := by
  have := nums_go xs hl xs.length 0 [] (by simp) (by simpa using hl)
  simp only [List.nil_append, List.drop_zero] at this
  unfold impl_numbers.f
  rw [show (0 : Int) = ((0 : Nat) : Int) from rfl, this]
  congr 1
  rw [List.map_congr_left (g := id) (fun x hx => ?_), List.map_id]
  have := h x hx
  simp only [most] at this
  show IntKind.u64.wrap x = x
  exact u64_id (by omega) (by omega)
end Go.Proofs.Ytimakagmhikhfaa.Ri
