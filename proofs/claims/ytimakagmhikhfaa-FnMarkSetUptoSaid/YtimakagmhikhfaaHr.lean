/- Package heap's Push and Pop over the heap of indices. -/
import Derived.Test.YtimakagmhikhfaaHq
namespace Go.Proofs.Ytimakagmhikhfaa.Hp
open Go.RowKit Go.Proofs.YtimakagmhikhfaaW.PrintWords Go.Proofs.YtimakagmhikhfaaW.PrintLast Go.Proofs.YtimakagmhikhfaaW.PrintMore Go.Proofs.Ytimakagmhikhfaa.Mk Go.Proofs.Ytimakagmhikhfaa.Fr
set_option linter.unusedVariables false
set_option linter.unusedSimpArgs false
set_option maxHeartbeats 400000 in
theorem len_calls (v : Value) (ib : Nat) (l0 : List Int) (w : World) (h : HB w ib v l0) :
    Calls Try.prog 63 #[v] w fun e w' => e = .returned (.int .i64 (l0.length : Int)) ∧ w = w' := by
  obtain ⟨A0, c0, rfl, hc0, hr0⟩ := Kd.R_reads h.hr
  clear h
  have hm := Kd.C_max hr0
  clear hr0
  go_enter Try.func63, Try.ntmps63
  go_wp2
  go_ret
  exact ⟨rfl, rfl⟩
def PushPost (w : World) (ib : Nat) (v : Value) (xs : List Int) (x : Int) (e : Ending) (w' : World) : Prop :=
  e = .returned (.tuple #[]) ∧ ∃ v' ys, HB w' ib v' ys ∧ ys.Perm (x :: xs) ∧ IsHeap ys ∧ Kp w w' (fun k => k = ib ∨ some k = v.ownBlock) ∧ Rowed w v v'
set_option maxHeartbeats 800000 in
theorem push_top (ib : Nat) (v : Value) (xs : List Int) (x : Int) (w : World) (h : HB w ib v xs) (hh : IsHeap xs) (hl : xs.length ≤ 10000000000000) :
    Calls Try.prog 41 #[.iface 76 (.pointer (some ⟨ib, 0, none⟩)), .iface 53 (.int .u64 x)] w (PushPost w ib v xs x) := by
  have m1 := m_push ⟨ib, 0, none⟩ w
  have H := Lib.hid h
  clear h
  go_enter Try.func41, Try.ntmps41
  go_wp2_with fail
  refine (push_calls ib v xs x w H.out (by omega)).mono ?_
  rintro e w1 ⟨rfl, v1, hB, hK, hR⟩
  have m2 := m_len ⟨ib, 0, none⟩ v1 w1 hB.cell
  have HB1 := Lib.hid hB
  clear hB
  go_wp2_with fail
  refine (len_calls v1 ib _ w1 HB1.out).mono ?_
  rintro e w2 ⟨rfl, rfl⟩
  have el : (xs ++ [x]).length = xs.length + 1 := by simp
  rw [el]
  go_wp2_with fail
  refine (up_calls ib v1 (xs ++ [x]) xs.length w1 HB1.out (upInv_push hh x) (by rw [el]; omega)).mono ?_
  rintro e w3 ⟨rfl, l, hB3, hp, hi, hK3⟩
  go_wp2_with fail
  go_end0
  refine ⟨rfl, v1, l, hB3, hp.trans (List.perm_append_comm (l₁ := xs) (l₂ := [x])), hi, hK.trans hK3 ?_, hR⟩
  intro k hk
  rcases hR with hR | ⟨b, hb, hle⟩
  · exact .inl (.inr (hk.trans hR))
  · rw [hb] at hk; injection hk with hk; subst hk; exact .inr hle
def PopPost (w : World) (ib : Nat) (v : Value) (xs : List Int) (e : Ending) (w' : World) : Prop :=
  ∃ r, e = .returned r ∧ ∃ v' ys, HB w' ib v' ys ∧ xs.Perm (xs.getD 0 0 :: ys) ∧ IsHeap ys ∧ Kp w w' (fun k => k = ib ∨ some k = v.ownBlock) ∧ Rowed w v v'
set_option maxHeartbeats 800000 in
theorem pop_top (ib : Nat) (v : Value) (xs : List Int) (n : Nat) (w : World) (h : HB w ib v xs) (hh : IsHeap xs) (hn : xs.length = n + 1) (hl : xs.length ≤ 10000000000000) :
    Calls Try.prog 43 #[.iface 76 (.pointer (some ⟨ib, 0, none⟩))] w (PopPost w ib v xs) := by
  have m1 := m_len ⟨ib, 0, none⟩ v w h.cell
  have ms := m_swap ⟨ib, 0, none⟩ v w h.cell
  have H := Lib.hid h
  have HN := Lib.hid hn
  have hn2 : n < 10000000000000 := by omega
  clear h hn
  go_enter Try.func43, Try.ntmps43
  go_wp2_with fail
  refine (len_calls v ib xs w H.out).mono ?_
  rintro e w1 ⟨rfl, rfl⟩
  rw [HN.out]
  go_wp2_with fail
  refine (swap_int v ib xs _ _ 0 n w H.out rfl rfl (by rw [HN.out]; omega) (by rw [HN.out]; omega)).mono ?_
  rintro e w2 ⟨rfl, hB2, hK2⟩
  have HB2 := Lib.hid hB2
  clear hB2
  go_wp2_with fail
  have hn := HN.out
  refine (down_calls ib v (sw xs 0 n) n w2 HB2.out (downInv_pop hh n hn) (by rw [sw_length]; exact hn) (by rw [sw_length]; omega)).mono ?_
  rintro e w3 ⟨b, rfl, l, hB3, hp, hhn, hq, hK3⟩
  have m3 := m_pop ⟨ib, 0, none⟩ w3
  have hlen := hp.length_eq
  rw [sw_length, hn] at hlen
  have HB3 := Lib.hid hB3
  have HL := Lib.hid hlen
  have HP := Lib.hid hp
  have HQ := Lib.hid hq
  clear hB3 hlen hp hq hn
  go_wp2_with fail
  refine (popm_calls ib v l n w3 HB3.out HL.out).mono ?_
  rintro e w4 ⟨rfl, v4, hB4, hK4, ho⟩
  go_wp2_with fail
  go_ret
  have hn := HN.out
  have hlen := HL.out
  refine ⟨_, rfl, v4, _, hB4, ?_, heapN_take hhn (by omega), ?_, .inl ho⟩
  · have e1 : l = l.take n ++ [l.getD n 0] := by
      rw [List.getD_eq_getElem?_getD, List.getElem?_eq_getElem (by omega), Option.getD_some]
      conv => lhs; rw [← List.take_append_drop n l]
      congr 1
      rw [List.drop_eq_getElem_cons (by omega), List.drop_of_length_le (by omega)]
    have e2 : (sw xs 0 n).getD n 0 = xs.getD 0 0 := by
      rw [sw_getD xs 0 n n (by omega) (by omega)]; simp [swp]
    have hq := HQ.out
    rw [e2] at hq
    rw [hq] at e1
    have p1 := HP.out.trans (sw_perm xs 0 n (by omega) (by omega))
    refine p1.symm.trans ?_
    conv => lhs; rw [e1]
    exact List.perm_append_comm (l₁ := l.take n) (l₂ := [xs.getD 0 0])
  · have k1 : Kp w w2 (fun k => k = ib ∨ some k = v.ownBlock) := hK2.mono (fun _ h => .inr h)
    exact (k1.trans hK3 (fun _ h => .inl (.inr h))).trans hK4 (fun _ h => .inl (.inl h))
end Go.Proofs.Ytimakagmhikhfaa.Hp
