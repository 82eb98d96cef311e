/- Package heap's down, Push and Pop over the heap of indices. -/
import Derived.Test.YtimakagmhikhfaaHp
namespace Go.Proofs.Ytimakagmhikhfaa.Hp
open Go.RowKit Go.Proofs.YtimakagmhikhfaaW.PrintWords Go.Proofs.YtimakagmhikhfaaW.PrintLast Go.Proofs.YtimakagmhikhfaaW.PrintMore Go.Proofs.Ytimakagmhikhfaa.Mk Go.Proofs.Ytimakagmhikhfaa.Fr
set_option linter.unusedVariables false
set_option linter.unusedSimpArgs false
def DownPost (w : World) (ib : Nat) (v : Value) (l0 : List Int) (n : Nat) (e : Ending) (w' : World) : Prop :=
  ∃ b, e = .returned (.bool b) ∧ ∃ l, HB w' ib v l ∧ l.Perm l0 ∧ HeapN n (fun k => l.getD k 0) ∧ l.getD n 0 = l0.getD n 0 ∧ Kp w w' (fun k => some k = v.ownBlock)
def DownRel (w : World) (ib : Nat) (v : Value) (l0 : List Int) (n : Nat) (iv : Value) (wr : World) : Prop :=
  ∃ (i : Nat) (l : List Int), iv = .int .i64 i ∧ i ≤ n ∧ HB wr ib v l ∧ l.Perm l0 ∧ DownInv n (fun k => l.getD k 0) i ∧ l.getD n 0 = l0.getD n 0 ∧ Kp w wr (fun k => some k = v.ownBlock)
theorem min2 {l : List Int} {i n : Nat} (h : l.getD (2 * i + 2) 0 < l.getD (2 * i + 1) 0) : ∀ c, 0 < c → c < n → (c - 1) / 2 = i → (fun k => l.getD k 0) (2 * i + 2) ≤ (fun k => l.getD k 0) c := by
  intro c c0 _ e
  rcases (show c = 2 * i + 1 ∨ c = 2 * i + 2 by omega) with e | e <;> subst e
  · exact Int.le_of_lt h
  · exact Int.le_refl _
theorem min1 {l : List Int} {i n : Nat} (h : l.getD (2 * i + 1) 0 ≤ l.getD (2 * i + 2) 0) : ∀ c, 0 < c → c < n → (c - 1) / 2 = i → (fun k => l.getD k 0) (2 * i + 1) ≤ (fun k => l.getD k 0) c := by
  intro c c0 _ e
  rcases (show c = 2 * i + 1 ∨ c = 2 * i + 2 by omega) with e | e <;> subst e
  · exact Int.le_refl _
  · exact h
theorem min0 {l : List Int} {i n : Nat} (h : ¬ 2 * i + 2 < n) : ∀ c, 0 < c → c < n → (c - 1) / 2 = i → (fun k => l.getD k 0) (2 * i + 1) ≤ (fun k => l.getD k 0) c := by
  intro c c0 cn e
  rcases (show c = 2 * i + 1 ∨ c = 2 * i + 2 by omega) with e | e <;> subst e
  · exact Int.le_refl _
  · exact absurd cn h
set_option maxHeartbeats 4000000 in
theorem down_calls (ib : Nat) (v : Value) (l0 : List Int) (n : Nat) (w : World) (h : HB w ib v l0) (hu : DownInv n (fun k => l0.getD k 0) 0) (hn : l0.length = n + 1) (hl : l0.length ≤ 1000000000000000) :
    Calls Try.prog 46 #[.iface 76 (.pointer (some ⟨ib, 0, none⟩)), .int .i64 0, .int .i64 n] w (DownPost w ib v l0 n) := by
  have HN := Lib.hid hn
  have hnb : n ≤ 1000000000000000 := by omega
  clear hn
  go_enter Try.func46, Try.ntmps46
  go_wp2_with fail
  go_loopw [7] (fun iv wr => DownRel w ib v l0 n iv wr) (fun iv _ => n - (intOf iv).toNat)
  case atStart => exact ⟨0, l0, rfl, Nat.zero_le _, h, List.Perm.refl _, hu, rfl, Kp.refl w _⟩
  case round =>
    obtain ⟨i, l, rfl, hin, hB, hp, hI, hq, hK⟩ := hrel
    have hlen := hp.length_eq
    rw [HN.out] at hlen
    have HP := Lib.hid hp
    have HL := Lib.hid hlen
    have HI := Lib.hid hI
    have HQ := Lib.hid hq
    have ml := m_less ⟨ib, 0, none⟩ v wr hB.cell
    have HBx := Lib.hid hB
    clear hp hlen hI h hu hB hq
    have hll : n < l.length := by rw [HL.out]; omega
    by_cases c1 : 2 * i + 1 < n
    · by_cases c2 : 2 * i + 2 < n
      · by_cases c4 : l.getD (2 * i + 2) 0 < l.getD (2 * i + 1) 0
        · have D1 := Lib.hid (decide_eq_true c4)
          have C4 := Lib.hid c4
          clear c4
          by_cases c5 : l.getD (2 * i + 2) 0 < l.getD i 0
          · have D2 := Lib.hid (decide_eq_true c5)
            have C5 := Lib.hid c5
            clear c5
            go_wp2_with fail
            refine (less_int v ib l _ _ (2 * i + 2) (2 * i + 1) true wr HBx.out (by omega) (by omega) (by omega) (by omega) D1.out).mono ?_
            rintro e w1 ⟨rfl, hBw1, hdw1⟩
            have mlw1 := m_less ⟨ib, 0, none⟩ v w1 hBw1.cell
            have msw1 := m_swap ⟨ib, 0, none⟩ v w1 hBw1.cell
            have HB1 := Lib.hid hBw1
            clear hBw1
            go_wp2_with fail
            refine (less_int v ib l _ _ (2 * i + 2) (i) true w1 HB1.out (by omega) (by omega) (by omega) (by omega) D2.out).mono ?_
            rintro e w2 ⟨rfl, hBw2, hdw2⟩
            have mlw2 := m_less ⟨ib, 0, none⟩ v w2 hBw2.cell
            have msw2 := m_swap ⟨ib, 0, none⟩ v w2 hBw2.cell
            have HB2 := Lib.hid hBw2
            clear hBw2
            go_wp2_with fail
            refine (swap_int v ib l _ _ i (2 * i + 2) w2 HB2.out (by omega) (by omega) (by omega) (by omega)).mono ?_
            rintro e w3 ⟨rfl, hB3, hk3⟩
            go_wp2_with fail
            go_roundw
            case rel =>
              refine ⟨2 * i + 2, sw l i (2 * i + 2), by go_num, by omega, hB3, (sw_perm l _ _ (by omega) (by omega)).trans HP.out, ?_, ?_, ((hK.drawn hdw1).drawn hdw2).trans hk3 (fun _ h => .inl h)⟩
              · rw [swap_of l i (2 * i + 2) (by omega) (by omega)]
                exact down_step HI.out (.inr rfl) (by omega) (min2 C4.out) C5.out
              · rw [sw_getD l i (2 * i + 2) n (by omega) (by omega)]
                simp only [swp]
                rw [if_neg (by omega), if_neg (by omega)]
                exact HQ.out
            case measure => simp [intOf]; omega
          · have D2 := Lib.hid (decide_eq_false c5)
            have C5 := Lib.hid c5
            clear c5
            go_wp2_with fail
            refine (less_int v ib l _ _ (2 * i + 2) (2 * i + 1) true wr HBx.out (by omega) (by omega) (by omega) (by omega) D1.out).mono ?_
            rintro e w1 ⟨rfl, hBw1, hdw1⟩
            have mlw1 := m_less ⟨ib, 0, none⟩ v w1 hBw1.cell
            have msw1 := m_swap ⟨ib, 0, none⟩ v w1 hBw1.cell
            have HB1 := Lib.hid hBw1
            clear hBw1
            go_wp2_with fail
            refine (less_int v ib l _ _ (2 * i + 2) (i) false w1 HB1.out (by omega) (by omega) (by omega) (by omega) D2.out).mono ?_
            rintro e w2 ⟨rfl, hBw2, hdw2⟩
            have mlw2 := m_less ⟨ib, 0, none⟩ v w2 hBw2.cell
            have msw2 := m_swap ⟨ib, 0, none⟩ v w2 hBw2.cell
            have HB2 := Lib.hid hBw2
            clear hBw2
            go_wp2_with fail
            go_ret
            have hc := C5.out
            exact ⟨_, rfl, l, HB2.out, HP.out, down_exit HI.out (.inr rfl) (min2 C4.out) (by show l.getD i 0 ≤ l.getD (2 * i + 2) 0; omega), HQ.out, (hK.drawn hdw1).drawn hdw2⟩
        · have D1 := Lib.hid (decide_eq_false c4)
          have C4 := Lib.hid (Int.not_lt.1 c4)
          clear c4
          by_cases c5 : l.getD (2 * i + 1) 0 < l.getD i 0
          · have D2 := Lib.hid (decide_eq_true c5)
            have C5 := Lib.hid c5
            clear c5
            go_wp2_with fail
            refine (less_int v ib l _ _ (2 * i + 2) (2 * i + 1) false wr HBx.out (by omega) (by omega) (by omega) (by omega) D1.out).mono ?_
            rintro e w1 ⟨rfl, hBw1, hdw1⟩
            have mlw1 := m_less ⟨ib, 0, none⟩ v w1 hBw1.cell
            have msw1 := m_swap ⟨ib, 0, none⟩ v w1 hBw1.cell
            have HB1 := Lib.hid hBw1
            clear hBw1
            go_wp2_with fail
            refine (less_int v ib l _ _ (2 * i + 1) (i) true w1 HB1.out (by omega) (by omega) (by omega) (by omega) D2.out).mono ?_
            rintro e w2 ⟨rfl, hBw2, hdw2⟩
            have mlw2 := m_less ⟨ib, 0, none⟩ v w2 hBw2.cell
            have msw2 := m_swap ⟨ib, 0, none⟩ v w2 hBw2.cell
            have HB2 := Lib.hid hBw2
            clear hBw2
            go_wp2_with fail
            refine (swap_int v ib l _ _ i (2 * i + 1) w2 HB2.out (by omega) (by omega) (by omega) (by omega)).mono ?_
            rintro e w3 ⟨rfl, hB3, hk3⟩
            go_wp2_with fail
            go_roundw
            case rel =>
              refine ⟨2 * i + 1, sw l i (2 * i + 1), by go_num, by omega, hB3, (sw_perm l _ _ (by omega) (by omega)).trans HP.out, ?_, ?_, ((hK.drawn hdw1).drawn hdw2).trans hk3 (fun _ h => .inl h)⟩
              · rw [swap_of l i (2 * i + 1) (by omega) (by omega)]
                exact down_step HI.out (.inl rfl) (by omega) (min1 C4.out) C5.out
              · rw [sw_getD l i (2 * i + 1) n (by omega) (by omega)]
                simp only [swp]
                rw [if_neg (by omega), if_neg (by omega)]
                exact HQ.out
            case measure => simp [intOf]; omega
          · have D2 := Lib.hid (decide_eq_false c5)
            have C5 := Lib.hid c5
            clear c5
            go_wp2_with fail
            refine (less_int v ib l _ _ (2 * i + 2) (2 * i + 1) false wr HBx.out (by omega) (by omega) (by omega) (by omega) D1.out).mono ?_
            rintro e w1 ⟨rfl, hBw1, hdw1⟩
            have mlw1 := m_less ⟨ib, 0, none⟩ v w1 hBw1.cell
            have msw1 := m_swap ⟨ib, 0, none⟩ v w1 hBw1.cell
            have HB1 := Lib.hid hBw1
            clear hBw1
            go_wp2_with fail
            refine (less_int v ib l _ _ (2 * i + 1) (i) false w1 HB1.out (by omega) (by omega) (by omega) (by omega) D2.out).mono ?_
            rintro e w2 ⟨rfl, hBw2, hdw2⟩
            have mlw2 := m_less ⟨ib, 0, none⟩ v w2 hBw2.cell
            have msw2 := m_swap ⟨ib, 0, none⟩ v w2 hBw2.cell
            have HB2 := Lib.hid hBw2
            clear hBw2
            go_wp2_with fail
            go_ret
            have hc := C5.out
            exact ⟨_, rfl, l, HB2.out, HP.out, down_exit HI.out (.inl rfl) (min1 C4.out) (by show l.getD i 0 ≤ l.getD (2 * i + 1) 0; omega), HQ.out, (hK.drawn hdw1).drawn hdw2⟩
      · have C2 := Lib.hid c2
        by_cases c5 : l.getD (2 * i + 1) 0 < l.getD i 0
        · have D2 := Lib.hid (decide_eq_true c5)
          have C5 := Lib.hid c5
          clear c5
          go_wp2_with fail
          refine (less_int v ib l _ _ (2 * i + 1) (i) true wr HBx.out (by omega) (by omega) (by omega) (by omega) D2.out).mono ?_
          rintro e w2 ⟨rfl, hBw2, hdw2⟩
          have mlw2 := m_less ⟨ib, 0, none⟩ v w2 hBw2.cell
          have msw2 := m_swap ⟨ib, 0, none⟩ v w2 hBw2.cell
          have HB2 := Lib.hid hBw2
          clear hBw2
          go_wp2_with fail
          refine (swap_int v ib l _ _ i (2 * i + 1) w2 HB2.out (by omega) (by omega) (by omega) (by omega)).mono ?_
          rintro e w3 ⟨rfl, hB3, hk3⟩
          go_wp2_with fail
          go_roundw
          case rel =>
            refine ⟨2 * i + 1, sw l i (2 * i + 1), by go_num, by omega, hB3, (sw_perm l _ _ (by omega) (by omega)).trans HP.out, ?_, ?_, (hK.drawn hdw2).trans hk3 (fun _ h => .inl h)⟩
            · rw [swap_of l i (2 * i + 1) (by omega) (by omega)]
              exact down_step HI.out (.inl rfl) (by omega) (min0 C2.out) C5.out
            · rw [sw_getD l i (2 * i + 1) n (by omega) (by omega)]
              simp only [swp]
              rw [if_neg (by omega), if_neg (by omega)]
              exact HQ.out
          case measure => simp [intOf]; omega
        · have D2 := Lib.hid (decide_eq_false c5)
          have C5 := Lib.hid c5
          clear c5
          go_wp2_with fail
          refine (less_int v ib l _ _ (2 * i + 1) (i) false wr HBx.out (by omega) (by omega) (by omega) (by omega) D2.out).mono ?_
          rintro e w2 ⟨rfl, hBw2, hdw2⟩
          have mlw2 := m_less ⟨ib, 0, none⟩ v w2 hBw2.cell
          have msw2 := m_swap ⟨ib, 0, none⟩ v w2 hBw2.cell
          have HB2 := Lib.hid hBw2
          clear hBw2
          go_wp2_with fail
          go_ret
          have hc := C5.out
          exact ⟨_, rfl, l, HB2.out, HP.out, down_exit HI.out (.inl rfl) (min0 C2.out) (by show l.getD i 0 ≤ l.getD (2 * i + 1) 0; omega), HQ.out, hK.drawn hdw2⟩
    · go_wp2_with fail
      go_ret
      exact ⟨_, rfl, l, HBx.out, HP.out, down_exit0 HI.out (by omega), HQ.out, hK⟩
end Go.Proofs.Ytimakagmhikhfaa.Hp
