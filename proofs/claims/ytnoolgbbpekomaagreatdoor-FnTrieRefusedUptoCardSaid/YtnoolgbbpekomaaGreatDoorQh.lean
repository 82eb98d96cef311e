/- FnTrieRefused: the plain law, and the function whole. -/
import Derived.Test.YtnoolgbbpekomaaGreatDoorWr
import Derived.Test.YtnoolgbbpekomaaGreatDoorQb
namespace Go.Proofs.YtnoolgbbpekomaaGreatDoor.Qh
open Go.RowKit YtnoolgbbpekomaaGreatDoorW.PrintWords YtnoolgbbpekomaaGreatDoorW.PrintLast YtnoolgbbpekomaaGreatDoorW.PrintMore T Tr Gp Fx Em Pa Pb Pc Wr
set_option linter.unusedVariables false
set_option linter.unusedSimpArgs false
/-- A turn that is refused. -/
theorem bad_turn {s1 s2 : ByteArray} (h : Qb.wordB (bytesOf s2) false = true) (h1 : s1.size ≤ 2000) (h2 : s2.size ≤ 100000000) : Rt.TurnOk (⟨2, s1, s2, 7⟩ : S64) ∧ okT (⟨2, s1, s2, 7⟩ : S64) = false := by
  obtain ⟨hw1, hw2⟩ := Qb.word_is h
  have hse : ba s2.data.toList = s2 := rfl
  have hsz : s2.data.toList.length = s2.size := by rw [← hse, ba_size, ba_list]
  obtain ⟨r, hr⟩ := Di.parse_word hw1
  refine ⟨⟨⟨(by decide : (0:Int) ≤ 2), (by decide : (2:Int) ≤ 3)⟩, Nat.le_trans h1 (by decide), ⟨?_, hw2⟩, (r, false), hr, Ss.parse_len hr⟩, ?_⟩
  · show s2.data.toList.length ≤ _
    omega
  · unfold okT
    rw [if_neg (show ¬ (2:Int) < 2 by decide)]
    show ((Pi.parse s2.data.toList).getD ([], false)).2 = false
    rw [hr]; rfl
theorem calls {w : World} {A0 A3 : Option Addr} {c0 c3 : Nat} {l0 : List S42} {s1 s2 : ByteArray} {l3 : List ByteArray} (hC0 : Kd.C k42 w A0 l0.length l0) (hc0 : l0.length ≤ c0) (hC3 : Kd.C Kd.string w A3 l3.length l3) (hc3 : l3.length ≤ c3) (hl : Pi.Laid w) (hs : Small l0) (h2 : l0.length ≤ 4000000) (hz1 : s1.size ≤ 100000000) (hz2 : s2.size ≤ 100000000) (hk : Keys l3) :
    Calls Tryz.prog 12 #[.slice A0 l0.length c0, .string s1, .string s2, .slice A3 l3.length c3] w fun e w' => e = .returned (.bool true) ∧ Below w.heap.size w w' := by
  have hsm : Small (l0 ++ [(⟨false, s1, [], 0⟩ : S42)]) := by
    refine ⟨by rw [List.length_append]; simp only [List.length_singleton]; omega, fun m hm => ?_, fun m hm => ?_⟩
    · rcases List.mem_append.1 hm with hm | hm
      · exact hs.sp m hm
      · rw [List.mem_singleton.1 hm]; exact Nat.zero_le _
    · rcases List.mem_append.1 hm with hm | hm
      · exact hs.pre m hm
      · rw [List.mem_singleton.1 hm]; exact hz1
  have both : (l0 ++ [(⟨false, s1, [], 0⟩ : S42)]).all mOk = true → l0.all mOk = true ∧ s1.size ≤ 2000 := by
    intro h
    rw [List.all_append, Bool.and_eq_true] at h
    refine ⟨h.1, ?_⟩
    have := h.2
    rw [List.all_cons, Bool.and_eq_true] at this
    exact mOk_pre this.1
  have hll := left_len l0
  refine refused_calls hC0 hc0 hC3 hc3 hl hs hk hz1 hz2 _ _ (Ev.rounds (matches_ev _ hsm)) (Ev.rounds (Qb.word_ev s2 (by omega))) (T := l0.map (turnOf false false false)) (fun hm hw => Ev.rounds (turns_ev false false false l0 hs (both hm).1)) (by rw [List.length_map]; omega) (oks := l0.map (fun _ => true) ++ [false]) (rows := rowsE (leftE l0) l3) (nds := (nodes (leftE l0) : Int)) (fun hm hw => ?_) (by simp) (by rw [List.getElem?_append_right (by simp)]; simp) (rowsE_len _ _) (fun hm hw => Ev.rounds (of_ev hs (both hm).1 hk)) (fun hm hw => Ev.rounds (rows_same (by omega) hk))
  obtain ⟨ho, h1⟩ := both hm
  obtain ⟨hb1, hb2⟩ := bad_turn hw h1 hz2
  have hr := run_ok false false false hs ho hk
  unfold impl_RunTrie.f
  rw [if_pos]
  · have hen : entries (l0.map (turnOf false false false) ++ [(⟨2, s1, s2, 7⟩ : S64)]) = leftE l0 := by
      unfold entries
      rw [List.foldl_append]
      show stepE _ _ = _
      unfold stepE
      rw [if_neg (by rw [hb2]; exact Bool.false_ne_true)]
      exact entries_turns false false false l0 ho
    unfold rowsOf
    rw [hen, List.map_append, List.map_map]
    congr 1
    refine Prod.ext ?_ (Prod.ext ?_ rfl)
    · show _ ++ [okT _] = _
      rw [hb2]
      congr 1
      exact List.map_congr_left (fun m hm => (step_turnOf false false false (List.all_eq_true.1 ho m hm) []).1)
    · exact List.map_congr_left (fun s _ => rows_wrap ho _)
  · refine ⟨fun x hx => ?_, ?_, ?_, hr.key, hr.keys⟩
    · rcases List.mem_append.1 hx with hx | hx
      · exact hr.ok x hx
      · rw [List.mem_singleton.1 hx]; exact hb1
    · rw [List.map_append, List.sum_append]
      have := sum_le false false false l0 ho
      have := hs.len
      simp only [List.map_cons, List.map_nil, List.sum_cons, List.sum_nil]
      omega
    · rw [List.length_append, List.length_map]
      have := hs.len
      simp only [List.length_singleton]
      omega
end Go.Proofs.YtnoolgbbpekomaaGreatDoor.Qh
