/- Matches that are there: plain. -/
import Derived.Test.YtnoolgbbpekomaaGreatDoorPc
import Derived.Test.YtnoolgbbpekomaaGreatDoorUi
namespace Go.Proofs.YtnoolgbbpekomaaGreatDoor.Pd
open Go.RowKit YtnoolgbbpekomaaGreatDoorW.PrintWords YtnoolgbbpekomaaGreatDoorW.PrintLast YtnoolgbbpekomaaGreatDoorW.PrintMore T Tr Gp Fx Em Pa Pb Pc
set_option linter.unusedVariables false
set_option linter.unusedSimpArgs false
def thereM (m : S42) : S42 := ⟨false, m.f1, m.f2, m.f3⟩
theorem there_go (l : List S42) (hl : l.length ≤ 10000000) : ∀ (d m : Nat) (acc : List S42), m + d = l.length → acc.length = m → Ev (fun k => laws_there.l0 k acc l (l.length : Int) (m : Int)) (acc ++ (l.drop m).map thereM)
  | 0, m, acc, hm, ha => by
    have hm : m = l.length := by omega
    subst hm
    rw [drop_all, List.map_nil, List.append_nil]
    exact Ev.one (fun k => by rw [laws_there.l0, if_neg (by omega)])
  | d + 1, m, acc, hm, ha => by
    have hml : m < l.length := by omega
    have hx := rd42 hml
    have ih := there_go l hl d (m + 1) (acc ++ [thereM l[m]]) (by omega) (by rw [List.length_append, List.length_singleton, ha])
    rw [List.append_assoc, List.singleton_append] at ih
    rw [List.drop_eq_getElem_cons hml, List.map_cons]
    exact Ev.step (fun k => by rw [laws_there.l0, if_pos (by omega), if_pos (by omega), if_pos (by omega), if_pos (by omega), hx, wrap_up (by omega)]; rfl) ih
theorem there_ev (l : List S42) (hl : l.length ≤ 10000000) : Ev (fun k => laws_there.f k l) (l.map thereM) := there_go l hl l.length 0 [] (by omega) rfl
theorem left_adds : ∀ (l : List S42), (∀ m ∈ l, m.f0 = false) → leftE l = l.map ent := by
  have go : ∀ (l : List S42) (E : List En), (∀ m ∈ l, m.f0 = false) → l.foldl stepM E = E ++ l.map ent := by
    intro l
    induction l with
    | nil => intro E _; simp
    | cons m t ih =>
      intro E h
      rw [List.foldl_cons, ih _ (fun x hx => h x (List.mem_cons_of_mem _ hx))]
      unfold stepM
      rw [h m List.mem_cons_self, if_neg (by decide)]
      simp
  intro l h
  have := go l [] h
  rw [List.nil_append] at this
  exact this
theorem there_small {l : List S42} (h : Small l) : Small (l.map thereM) :=
  ⟨by rw [List.length_map]; exact h.len, fun m hm => by obtain ⟨x, hx, rfl⟩ := List.mem_map.1 hm; exact h.sp x hx, fun m hm => by obtain ⟨x, hx, rfl⟩ := List.mem_map.1 hm; exact h.pre x hx⟩
theorem there_ok {l : List S42} (h : l.all mOk = true) : (l.map thereM).all mOk = true := by
  rw [List.all_eq_true] at h ⊢
  intro m hm
  obtain ⟨x, hx, rfl⟩ := List.mem_map.1 hm
  exact h x hx
theorem there_in (l : List S42) : ∀ m ∈ l.map thereM, m.f0 = false := by
  intro m hm
  obtain ⟨x, _, rfl⟩ := List.mem_map.1 hm
  rfl
end Go.Proofs.YtnoolgbbpekomaaGreatDoor.Pd
