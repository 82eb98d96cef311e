/- FnTrieFound: the plain law, and the function whole. -/
import Derived.Test.YtnoolgbbpekomaaGreatDoorWf
import Derived.Test.YtnoolgbbpekomaaGreatDoorQi
namespace Go.Proofs.YtnoolgbbpekomaaGreatDoor.Qj
open Go.RowKit YtnoolgbbpekomaaGreatDoorW.PrintWords YtnoolgbbpekomaaGreatDoorW.PrintLast YtnoolgbbpekomaaGreatDoorW.PrintMore T Tr Gp Fx Em Pa Pb Pc Wf Wl
set_option linter.unusedVariables false
set_option linter.unusedSimpArgs false
theorem step_ent (L : List S42) (m : S42) : (stepS L m).map ent = stepM (L.map ent) m := by
  unfold stepS stepM
  split
  · unfold keepM takeOut
    rw [List.filter_map]
    congr 1
    refine List.filter_congr (fun x _ => ?_)
    show (!eqM x m) = decide (ent x ≠ (wayM m, m.f3))
    unfold eqM ent
    by_cases h1 : x.f3 = m.f3 <;> by_cases h2 : wayM x = wayM m <;> simp [h1, h2]
  · rw [List.map_append]
    rfl
theorem left_ent (l : List S42) : (leftM l).map ent = leftE l := by
  have go : ∀ (t L : List S42), (t.foldl stepS L).map ent = t.foldl stepM (L.map ent) := by
    intro t
    induction t with
    | nil => intro L; rfl
    | cons m t ih => intro L; rw [List.foldl_cons, List.foldl_cons, ih, step_ent]
  exact go l []
theorem left_small {l : List S42} (h : Small l) : Small (leftM l) :=
  ⟨Nat.le_trans (leftM_len l) h.len, fun m hm => h.sp m (leftM_mem l m hm), fun m hm => h.pre m (leftM_mem l m hm)⟩
theorem calls {w : World} {A0 A1 : Option Addr} {c0 c1 : Nat} {l0 : List S42} {l1 : List ByteArray} {sp d : Bool} (hC0 : Kd.C k42 w A0 l0.length l0) (hc0 : l0.length ≤ c0) (hC1 : Kd.C Kd.string w A1 l1.length l1) (hc1 : l1.length ≤ c1) (hl : Pi.Laid w) (hs : Small l0) (hk : Keys l1) :
    Calls Tryz.prog 7 #[.slice A0 l0.length c0, .slice A1 l1.length c1, .bool sp, .bool d] w fun e w' => e = .returned (.bool true) ∧ Below w.heap.size w w' := by
  refine found_calls hC0 hc0 hC1 hc1 hl hs hk (T := l0.map (turnOf sp d false)) (fun h => Ev.rounds (turns_ev sp d false l0 hs h)) (fun h => run_f sp d false hs h hk) (List.length_map ..) (fun i hi => by simp [rdOf, hi]) (rowsE_len _ _) (fun i hi => ?_)
  rw [Qi.rd_rows _ hi]
  have h1 := sfound_ev (leftM l0) (left_small hs) l1[i]
  rw [left_ent] at h1
  have := found_len (leftE l0) (bytesOf l1[i])
  have := left_len l0
  have := hs.len
  exact ⟨Ev.rounds h1, Ev.rounds (Pw.ints_ev _ (by omega))⟩
end Go.Proofs.YtnoolgbbpekomaaGreatDoor.Qj
