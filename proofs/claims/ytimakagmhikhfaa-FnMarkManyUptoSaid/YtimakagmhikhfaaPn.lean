/- Many indices at once are as one behind the other: what the printed functions say. -/
import Derived.Test.YtimakagmhikhfaaMn
import Derived.Test.YtimakagmhikhfaaPd
import Derived.Test.YtimakagmhikhfaaPm
namespace Go.Proofs.Ytimakagmhikhfaa.Pure
open Go.RowKit Go.Proofs.Ytimakagmhikhfaa.M Go.Proofs.Ytimakagmhikhfaa.Mk Go.Proofs.Ytimakagmhikhfaa.Sm Go.Proofs.Ytimakagmhikhfaa.Many Go.Proofs.YtimakagmhikhfaaW.PrintWords Go.Proofs.YtimakagmhikhfaaW.PrintLast
set_option linter.unusedVariables false
theorem mrd (l : List Int) (i : Nat) (h : i < l.length) : rd l (i : Int) = l[i] := by simp [rd, h]
theorem sing_l1 (l : List S31) (n i : Int) (xs : List Int) (hx : xs.length ≤ 1048576) : ∀ d m : Nat, m + d = xs.length → ∀ (acc : List S31), acc.length + d ≤ 4194304 → ∀ K, spec_Singles.l1 (d + 1 + K) acc l n i xs (xs.length : Int) (m : Int) = spec_Singles.l0 K (acc ++ (xs.drop m).map (one 0)) l n (wrap64 (i + 1))
  | 0, m, hm, acc, ha, K => by
    have : m = xs.length := by omega
    subst this
    rw [show 0 + 1 + K = K + 1 by omega, spec_Singles.l1, if_neg (by omega)]
    simp
  | d + 1, m, hm, acc, ha, K => by
    have hml : m < xs.length := by omega
    rw [show d + 1 + 1 + K = (d + 1 + K) + 1 by omega, spec_Singles.l1, if_pos (by omega), if_pos (by omega), if_pos (by omega), if_pos (by omega), w1_ m (by omega), mrd xs m hml, sing_l1 l n i xs hx d (m + 1) (by omega) _ (by simp; omega) K, List.drop_eq_getElem_cons hml]
    rw [List.map_cons, List.append_assoc]
    rfl
theorem sing_l2 (l : List S31) (n i : Int) (xs : List Int) (hx : xs.length ≤ 1048576) : ∀ d m : Nat, m + d = xs.length → ∀ (acc : List S31), acc.length + d ≤ 4194304 → ∀ K, spec_Singles.l2 (d + 1 + K) acc l n i xs (xs.length : Int) (m : Int) = spec_Singles.l0 K (acc ++ (xs.drop m).map (one 2)) l n (wrap64 (i + 1))
  | 0, m, hm, acc, ha, K => by
    have : m = xs.length := by omega
    subst this
    rw [show 0 + 1 + K = K + 1 by omega, spec_Singles.l2, if_neg (by omega)]
    simp
  | d + 1, m, hm, acc, ha, K => by
    have hml : m < xs.length := by omega
    rw [show d + 1 + 1 + K = (d + 1 + K) + 1 by omega, spec_Singles.l2, if_pos (by omega), if_pos (by omega), if_pos (by omega), if_pos (by omega), w1_ m (by omega), mrd xs m hml, sing_l2 l n i xs hx d (m + 1) (by omega) _ (by simp; omega) K, List.drop_eq_getElem_cons hml]
    rw [List.map_cons, List.append_assoc]
    rfl
theorem tot_cons_ (a : S31) (t : List S31) : tot (a :: t) = weight a + tot t := by simp [tot]
theorem singles_cons (a : S31) (t : List S31) : singles (a :: t) = parts a ++ singles t := by simp [singles]
theorem sing_l0 (l : List S31) (hb : tot l ≤ 1048576) : ∀ d i : Nat, i + d = l.length → ∀ acc : List S31, acc.length + tot (l.drop i) ≤ 2097152 → ∃ F, ∀ K, spec_Singles.l0 (F + K) acc l (l.length : Int) (i : Int) = some (acc ++ singles (l.drop i))
  | 0, i, hi, acc, ha => ⟨1, fun K => by
    have : i = l.length := by omega
    subst this
    rw [show 1 + K = K + 1 by omega, spec_Singles.l0, if_neg (by omega)]
    simp [singles]⟩
  | d + 1, i, hi, acc, ha => by
    have hlen := len_tot l
    have hil : i < l.length := by omega
    have hm := mem_tot (a := l[i]) (List.getElem_mem hil)
    have ra : rd_T31 l (i : Int) = l[i] := by simp [rd_T31, hil]
    rw [List.drop_eq_getElem_cons hil] at ha ⊢
    have ht := tot_cons_ l[i] (l.drop (i + 1))
    have hw : (parts l[i]).length ≤ weight l[i] := by
      unfold parts weight
      split
      · simp
      · split <;> simp
    have hsing := singles_cons l[i] (l.drop (i + 1))
    obtain ⟨F, hF⟩ := sing_l0 l hb d (i + 1) (by omega) (acc ++ parts l[i]) (by rw [List.length_append]; omega)
    have hww : (l[i]).f2.length + 1 = weight l[i] := by unfold weight; omega
    by_cases e1 : (l[i]).f0 = 1
    · have hp : parts l[i] = (l[i]).f2.map (one 0) := by unfold parts; rw [if_pos e1]
      refine ⟨(l[i]).f2.length + 1 + F + 1, fun K => ?_⟩
      have h1 := sing_l1 l (l.length : Int) (i : Int) (l[i]).f2 (by omega) (l[i]).f2.length 0 (by omega) acc (by omega) (F + K)
      rw [show ((0 : Nat) : Int) = 0 from rfl, List.drop_zero] at h1
      rw [show (l[i]).f2.length + 1 + F + 1 + K = ((l[i]).f2.length + 1 + (F + K)) + 1 by omega, spec_Singles.l0, if_pos (by omega), if_pos (by omega), if_pos (by omega), ra, if_pos e1, h1, w1_ i (by omega), ← hp, hF K, hsing, List.append_assoc]
    · by_cases e3 : (l[i]).f0 = 3
      · have hp : parts l[i] = (l[i]).f2.map (one 2) := by unfold parts; rw [if_neg e1, if_pos e3]
        refine ⟨(l[i]).f2.length + 1 + F + 1, fun K => ?_⟩
        have h1 := sing_l2 l (l.length : Int) (i : Int) (l[i]).f2 (by omega) (l[i]).f2.length 0 (by omega) acc (by omega) (F + K)
        rw [show ((0 : Nat) : Int) = 0 from rfl, List.drop_zero] at h1
        rw [show (l[i]).f2.length + 1 + F + 1 + K = ((l[i]).f2.length + 1 + (F + K)) + 1 by omega, spec_Singles.l0, if_pos (by omega), if_pos (by omega), if_pos (by omega), ra, if_neg e1, if_pos e3, h1, w1_ i (by omega), ← hp, hF K, hsing, List.append_assoc]
      · have hp : parts l[i] = [l[i]] := by unfold parts; rw [if_neg e1, if_neg e3]
        refine ⟨F + 1, fun K => ?_⟩
        rw [show F + 1 + K = (F + K) + 1 by omega, spec_Singles.l0, if_pos (by omega), if_pos (by omega), if_pos (by omega), ra, if_neg e1, if_neg e3, if_pos (by omega), w1_ i (by omega)]
        have := hF K
        rw [hp] at this
        rw [this, hsing, hp, List.append_assoc]
theorem FnMarkMany_ (l : List S31) (h : tot l ≤ 1048576) : ∃ k, laws_FnMarkMany.f k l = some true := by
  have hl := len_tot l
  have stop : ∀ K, laws_FnMarkMany.j0 (K + 1) l true = some true := fun K => by
    rw [laws_FnMarkMany.j0, if_pos rfl, works_]; rfl
  obtain ⟨F, hF⟩ := sing_l0 l h l.length 0 (by omega) [] (by simp; omega)
  rw [show ((0 : Nat) : Int) = 0 from rfl] at hF
  simp only [List.drop_zero, List.nil_append] at hF
  refine ⟨l.length + 1 + (F + 2097155), ?_⟩
  have hf := fits l h (F + 2097155)
  unfold laws_FnMarkMany.f
  rw [hf, Option.bind_some, if_pos rfl, spec_f l h, Option.bind_some]
  rw [show l.length + 1 + (F + 2097155) = (F + (l.length + 2097155)) + 1 by omega]
  cases hr : run true l w0 [] with
  | none => simp only [Option.isSome_none, Bool.false_eq_true, if_false]; exact stop _
  | some r =>
    simp only [Option.isSome_some, if_true]
    by_cases hn : l = []
    · subst hn
      exact stop _
    · have hlp : 0 < l.length := List.length_pos_iff.2 hn
      rw [show ((l.length : Int) == 0) = false by simp; omega]
      obtain ⟨s, hs, h1, h2, h3⟩ := run_singles l true w0 [] r hr
      have hrl := run_len l _ _ _ r hr
      have hts := tot_singles l
      have hsl := run_len (singles l) _ _ _ s hs
      have hsl2 := len_tot (singles l)
      rw [laws_FnMarkMany.j0, if_neg (by simp), impl_f_ l (by omega), hr, Option.bind_some]
      unfold spec_Singles.f
      rw [hF, Option.bind_some, impl_f_ _ (by omega), hs, Option.bind_some, if_pos (by omega), decide_eq_false (by omega)]
      rw [show F + (l.length + 2097155) = (F + (l.length + 2097154)) + 1 by omega, laws_FnMarkMany.j1, if_neg (by simp)]
      have hrp : 0 < r.length := by omega
      have hsp : 0 < s.length := by omega
      have e1 : wrap64 ((r.length : Int) - 1) = ((r.length - 1 : Nat) : Int) := by unfold wrap64; omega
      have e2 : wrap64 ((s.length : Int) - 1) = ((s.length - 1 : Nat) : Int) := by unfold wrap64; omega
      have g1 : rd_T34 r ((r.length - 1 : Nat) : Int) = r[r.length - 1] := by simp [rd_T34, show r.length - 1 < r.length by omega]
      have g2 : rd_T34 s ((s.length - 1 : Nat) : Int) = s[s.length - 1] := by simp [rd_T34, show s.length - 1 < s.length by omega]
      have g3 : r.getLast? = some r[r.length - 1] := by rw [List.getLast?_eq_getElem?, List.getElem?_eq_getElem (by omega)]
      have g4 : s.getLast? = some s[s.length - 1] := by rw [List.getLast?_eq_getElem?, List.getElem?_eq_getElem (by omega)]
      have g5 := h3 _ g3
      rw [g4] at g5
      injection g5 with g5
      have hre := run_ended_ l _ _ _ r hr r[r.length - 1] (List.getElem_mem (by omega))
      simp only [List.length_nil] at hre
      rw [e1, e2, if_pos (by omega), if_pos (by omega), if_pos (by omega), if_pos (by omega), g1, g2, g5, if_pos rfl, if_pos rfl, if_pos rfl, same_ _ (by omega) _ (by omega), Option.bind_some, if_pos rfl, works_]
      rfl
end Go.Proofs.Ytimakagmhikhfaa.Pure
