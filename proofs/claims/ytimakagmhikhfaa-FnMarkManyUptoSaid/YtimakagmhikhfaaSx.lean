/- begin and done, by the definition. -/
import Derived.Test.YtimakagmhikhfaaSw
namespace Go.Proofs.Ytimakagmhikhfaa.Sw
open Go.RowKit Go.Proofs.YtimakagmhikhfaaW.PrintWords Go.Proofs.YtimakagmhikhfaaW.PrintLast Go.Proofs.YtimakagmhikhfaaW.PrintMore Go.Proofs.Ytimakagmhikhfaa.M Go.Proofs.Ytimakagmhikhfaa.Mk Go.Proofs.Ytimakagmhikhfaa.Fr Go.Proofs.Ytimakagmhikhfaa.Hp Go.Proofs.Ytimakagmhikhfaa.Pr
set_option linter.unusedVariables false
set_option linter.unusedSimpArgs false
theorem ret_b {a b : Bool} (h : a = b) : Ending.returned (.bool a) = .returned (.bool b) := by rw [h]
def SpPost (w : World) (wb B : Nat) (r : Bool × Wat) (e : Ending) (w' : World) : Prop := e = .returned (.bool r.1) ∧ Sp w' wb B r.2 ∧ Kp w w' (SS w B)
theorem Sp.setLast {w : World} {wb B : Nat} {σ : Wat} (h : Sp w wb B σ) (i : Int) : Sp (w.setCell ⟨wb, 1, none⟩ (.int .i64 i)) wb B { σ with last := i } ∧ Kp w (w.setCell ⟨wb, 1, none⟩ (.int .i64 i)) (SS w B) := by
  have hS := SS_wb h
  obtain ⟨hB, v, h1, h2⟩ := h
  exact ⟨⟨hB, v, blk_put h1 1 (.int .i64 i) rfl, Kd.Q_set h2 h1 t47 1 _⟩, (Kp.refl w _).setCell (.inl hS) _⟩
theorem Sp.below {w w1 : World} {wb B : Nat} {σ : Wat} (h : Sp w wb B σ) (hb : Below w.heap.size w w1) : Sp w1 wb B σ := by
  obtain ⟨hB, v, h1, h2⟩ := h
  exact ⟨hB, v, (hb.block _ (blk_lt h1)).trans h1, Kd.Q_below h2 hb⟩
theorem begin_calls (w : World) (wb B : Nat) (σ : Wat) (i N : Int) (h : Sp w wb B σ) (hB : B ≤ w.heap.size) (hf : Fine σ.till σ.pend N) (hN : N + 1 ≤ 4611686018427387904) :
    Calls Try.prog 22 #[.pointer (some ⟨wb, 0, none⟩), .int .i64 i] w (SpPost w wb B (σ.begin_ i)) := by
  have hlo := hf.lo
  have hhi := hf.hi
  simp only [most] at hhi
  obtain ⟨A, c, h1, h2⟩ := Sp.at_ h
  obtain ⟨c0, c1, c2, f0, f1, f2⟩ := Sp.cells h1
  by_cases k1 : i ≤ σ.till
  · have d1 : decide (i ≤ σ.till) = true := decide_eq_true k1
    have e : σ.begin_ i = (false, σ) := by unfold Wat.begin_; rw [if_pos (.inl k1)]
    rw [e]
    have HS := Lib.hid h
    clear h h1 h2 hf e
    go_enter Try.func22, Try.ntmps22
    go_wp2_with fail
    go_ret
    exact ⟨rfl, HS.out, Kp.refl _ _⟩
  · have d1 : decide (i ≤ σ.till) = false := decide_eq_false k1
    by_cases k2 : 1099511627776 < i
    · have d2 : decide (1099511627776 < i) = true := decide_eq_true k2
      have e : σ.begin_ i = (false, σ) := by unfold Wat.begin_; rw [if_pos (.inr k2)]
      rw [e]
      have HS := Lib.hid h
      clear h h1 h2 hf e
      go_enter Try.func22, Try.ntmps22
      go_wp2_with fail
      go_ret
      exact ⟨rfl, HS.out, Kp.refl _ _⟩
    · have d2 : decide (1099511627776 < i) = false := decide_eq_false k2
      have e : σ.begin_ i = (true, { σ.add i 1 with last := i }) := by unfold Wat.begin_; rw [if_neg (by simp only [most]; omega)]
      rw [e]
      have ha := add_calls w wb B σ i 1 N h hB hf (by omega) ⟨by omega, by omega⟩ hf.len
      have HA := Lib.hid ha
      clear h h1 h2 hf e ha
      go_enter Try.func22, Try.ntmps22
      go_wp2_with fail
      refine HA.out.mono ?_
      rintro e w1 ⟨rfl, hS, hK⟩
      obtain ⟨A1, c1', g1, g2⟩ := Sp.at_ hS
      obtain ⟨e0, e1, e2, f0', f1', f2'⟩ := Sp.cells g1
      have hL := Sp.setLast hS i
      have HL := Lib.hid hL
      have HK := Lib.hid hK
      clear g1 g2 hL hS hK c0 c1 c2 f0 f1 f2
      go_wp2_with fail
      go_ret
      exact ⟨rfl, HL.out.1, KS_trans HK.out HL.out.2⟩
theorem done_calls (w : World) (wb B : Nat) (σ : Wat) (i N : Int) (h : Sp w wb B σ) (hB : B ≤ w.heap.size) (hf : Fine σ.till σ.pend N) (hN : N ≤ 4611686018427387904) :
    Calls Try.prog 23 #[.pointer (some ⟨wb, 0, none⟩), .int .i64 i] w (SpPost w wb B (σ.done_ i)) := by
  have ho := open_calls w wb B σ i h
  have HO := Lib.hid ho
  have HS := Lib.hid h
  have HF := Lib.hid hf
  clear ho h hf
  cases hop : isOpen σ.pend i with
  | false =>
    rw [hop] at HO
    have e : σ.done_ i = (false, σ) := by unfold Wat.done_; rw [hop]; rfl
    rw [e]
    clear e hop
    go_enter Try.func23, Try.ntmps23
    go_wp2_with fail
    refine HO.out.mono ?_
    rintro e w1 ⟨rfl, hb⟩
    go_wp2_with fail
    go_ret
    exact ⟨rfl, Sp.below HS.out hb, Kp.of_below hb _⟩
  | true =>
    rw [hop] at HO
    have e : σ.done_ i = (true, σ.add i (-1)) := by unfold Wat.done_; rw [hop]; rfl
    rw [e]
    clear e hop
    go_enter Try.func23, Try.ntmps23
    go_wp2_with fail
    refine HO.out.mono ?_
    rintro e w1 ⟨rfl, hb⟩
    have HB := Lib.hid hb
    clear hb
    go_wp2_with fail
    refine (add_calls w1 wb B σ i (-1) N (Sp.below HS.out HB.out) (Nat.le_trans hB HB.out.size) HF.out hN ⟨by omega, by omega⟩ HF.out.len).mono ?_
    rintro e w2 ⟨rfl, hS, hK⟩
    have HS2 := Lib.hid hS
    have HK := Lib.hid hK
    clear hS hK
    go_wp2_with fail
    go_ret
    exact ⟨rfl, HS2.out, KS_trans (Kp.of_below HB.out _) HK.out⟩
end Go.Proofs.Ytimakagmhikhfaa.Sw
