/- FnTrieBack: the plain law, and the function whole. -/
import Derived.Test.YtnoolgbbpekomaaGreatDoorWb
namespace Go.Proofs.YtnoolgbbpekomaaGreatDoor.Ql
open Go.RowKit YtnoolgbbpekomaaGreatDoorW.PrintWords YtnoolgbbpekomaaGreatDoorW.PrintLast YtnoolgbbpekomaaGreatDoorW.PrintMore T Tr Gp Fx Em Pa Pb Pc Wl Wb
set_option linter.unusedVariables false
set_option linter.unusedSimpArgs false
theorem ent_ne {x m : S42} (h : eqM x m = false) : ent x ≠ ent m := by
  intro e
  unfold ent at e
  injection e with e1 e2
  unfold eqM at h
  rw [decide_eq_true e2, decide_eq_true e1] at h
  exact Bool.noConfusion h
theorem back_left (l : List S42) (b : Bool) (p : ByteArray) (sp : List S67) (id : Int) (hn : ∀ x ∈ l, eqM x (⟨b, p, sp, id⟩ : S42) = false) : leftE (l ++ [(⟨false, p, sp, id⟩ : S42), (⟨true, p, sp, id⟩ : S42)]) = leftE l := by
  have h1 : leftE (l ++ [(⟨false, p, sp, id⟩ : S42), (⟨true, p, sp, id⟩ : S42)]) = takeOut (wayM (⟨true, p, sp, id⟩ : S42)) id (leftE l ++ [ent (⟨false, p, sp, id⟩ : S42)]) := by
    unfold leftE
    rw [List.foldl_append]
    rfl
  rw [h1]
  unfold takeOut
  rw [List.filter_append]
  have h2 : (leftE l).filter (fun e => decide (e ≠ (wayM (⟨true, p, sp, id⟩ : S42), id))) = leftE l := by
    rw [List.filter_eq_self]
    intro e he
    obtain ⟨m, hm, rfl⟩ := left_sub l e he
    exact decide_eq_true (ent_ne (hn m hm))
  rw [h2]
  have h3 : ([ent (⟨false, p, sp, id⟩ : S42)]).filter (fun e => decide (e ≠ (wayM (⟨true, p, sp, id⟩ : S42), id))) = [] := by
    rw [List.filter_cons, if_neg (by rw [decide_eq_true_eq]; exact fun h => h rfl)]
    rfl
  rw [h3, List.append_nil]
theorem calls {w : World} {A0 A1 A2 : Option Addr} {c0 c1 c2 : Nat} {l0 : List S42} {g0 : Bool} {g1 : ByteArray} {g2 : List S67} {g3 : Int} {l2 : List ByteArray} (hC0 : Kd.C k42 w A0 l0.length l0) (hc0 : l0.length ≤ c0) (hC1 : Kd.C k67 w A1 g2.length g2) (hc1 : g2.length ≤ c1) (hC2 : Kd.C Kd.string w A2 l2.length l2) (hc2 : l2.length ≤ c2) (hl : Pi.Laid w) (hs : Small l0) (h2 : l0.length ≤ 4000000) (hsm : Small [(⟨g0, g1, g2, g3⟩ : S42)]) (hk : Keys l2) :
    Calls Tryz.prog 6 #[.slice A0 l0.length c0, .agg #[.bool g0, .string g1, .slice A1 g2.length c1, .int .i64 g3], .slice A2 l2.length c2] w fun e w' => e = .returned (.bool true) ∧ Below w.heap.size w w' := by
  have hmm := fun (b : Bool) => (show ∀ m ∈ [(⟨b, g1, g2, g3⟩ : S42)], m.f2.length ≤ 100000000 ∧ m.f1.size ≤ 100000000 from fun m hm => by
    rw [List.mem_singleton.1 hm]
    exact (show g2.length ≤ 100000000 ∧ g1.size ≤ 100000000 from ⟨hsm.sp (⟨g0, g1, g2, g3⟩ : S42) (List.mem_singleton.2 rfl), hsm.pre (⟨g0, g1, g2, g3⟩ : S42) (List.mem_singleton.2 rfl)⟩))
  have s1 : Small (l0 ++ [(⟨g0, g1, g2, g3⟩ : S42)]) := ⟨by simp; omega, fun m hm => (List.mem_append.1 hm).elim (hs.sp m) (fun h => (hmm g0 m h).1), fun m hm => (List.mem_append.1 hm).elim (hs.pre m) (fun h => (hmm g0 m h).2)⟩
  have s2 : Small (l0 ++ [(⟨false, g1, g2, g3⟩ : S42), (⟨true, g1, g2, g3⟩ : S42)]) := by
    have hx : ∀ m ∈ [(⟨false, g1, g2, g3⟩ : S42), (⟨true, g1, g2, g3⟩ : S42)], m.f2.length ≤ 100000000 ∧ m.f1.size ≤ 100000000 := fun m hm => by
      rcases List.mem_cons.1 hm with h | h
      · exact hmm false m (by rw [h]; exact List.mem_singleton.2 rfl)
      · exact hmm true m h
    exact ⟨by simp; omega, fun m hm => (List.mem_append.1 hm).elim (hs.sp m) (fun h => (hx m h).1), fun m hm => (List.mem_append.1 hm).elim (hs.pre m) (fun h => (hx m h).2)⟩
  refine back_calls (r := rowsE (leftE l0) l2) hC0 hc0 hC1 hc1 hC2 hc2 hl hs hsm hk ((l0 ++ [(⟨g0, g1, g2, g3⟩ : S42)]).all mOk) (Ev.rounds (matches_ev _ s1)) (fun hok _ => ?_) (fun hok hn => ?_) (rowsE_len _ _) (Ev.rounds (rows_same (by have := left_len l0; omega) hk))
  · rw [List.all_append, Bool.and_eq_true] at hok
    exact Ev.rounds (of_ev hs hok.1 hk)
  · rw [List.all_append, Bool.and_eq_true] at hok
    have e2 := of_ev s2 (by
      rw [List.all_append, hok.1, Bool.true_and]
      have h := hok.2
      simp only [List.all_cons, List.all_nil, Bool.and_true] at h ⊢
      rw [Bool.and_eq_true]
      exact ⟨h, h⟩) hk
    rw [back_left l0 g0 g1 g2 g3 hn] at e2
    exact Ev.rounds e2
end Go.Proofs.YtnoolgbbpekomaaGreatDoor.Ql
