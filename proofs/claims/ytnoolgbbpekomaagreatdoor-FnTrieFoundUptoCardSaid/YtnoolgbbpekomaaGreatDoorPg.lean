/- What fits, what is found: plain. -/
import Derived.Test.YtnoolgbbpekomaaGreatDoorPc
import Derived.Test.YtnoolgbbpekomaaGreatDoorUh
namespace Go.Proofs.YtnoolgbbpekomaaGreatDoor.Pc
open Go.RowKit YtnoolgbbpekomaaGreatDoorW.PrintWords YtnoolgbbpekomaaGreatDoorW.PrintLast YtnoolgbbpekomaaGreatDoorW.PrintMore T Tr Gp Fx Em Pa Pb
set_option linter.unusedVariables false
set_option linter.unusedSimpArgs false
/-! What fits. -/
theorem fits_go (a : S42) (key : ByteArray) (hs : a.f1.size ≤ key.size) (hn : a.f1.size ≤ 1000000000000) (hsa : a.f2.length ≤ 1000000000000) : ∀ d m : Nat, m + d = a.f1.size →
    Ev (fun k => spec_Fits.l0 k key (m : Int) a.f0 a.f1 a.f2 a.f3) (mat ((wayM a).drop m) ((bytesOf key).drop m))
  | 0, m, hm => by
    have e1 : (wayM a).drop m = [] := List.drop_eq_nil_of_le (by rw [wayM_len]; omega)
    rw [e1, mat_nil]
    exact Ev.one (fun k => by rw [spec_Fits.l0, if_neg (by omega)])
  | d + 1, m, hm => by
    have hkl : m < (bytesOf key).length := by rw [bytesOf_length]; omega
    have h1 := drop_step (wayM_at a m (by omega))
    have ih := fits_go a key hs hn hsa d (m + 1) (by omega)
    rw [h1, List.drop_eq_getElem_cons hkl, bt_bytes key m hkl]
    refine Ev.step (f := fun k => (spec_Hole.f k a.f2 (m : Int)).bind fun t319 => if t319 = true then spec_Fits.l0 k key ((m + 1 : Nat) : Int) a.f0 a.f1 a.f2 a.f3 else (if bt key (m : Int) = bt a.f1 (m : Int) then spec_Fits.l0 k key ((m + 1 : Nat) : Int) a.f0 a.f1 a.f2 a.f3 else some false)) (fun k => ?_) ?_
    · rw [spec_Fits.l0, if_pos (by omega), if_pos (show (0 : Int) ≤ (m : Int) by omega), if_pos (show (m : Int) < (key.size : Int) by omega), wrap_up (by omega)]
    · refine Ev.bind (hole_ev a.f2 hsa _) ?_
      cases ea : inSp a.f2 (m : Int) with
      | true =>
        rw [if_pos rfl]
        show Ev _ (mat ((wayM a).drop (m + 1)) ((bytesOf key).drop (m + 1)))
        exact Ev.congr (fun k => by rw [if_pos rfl]) ih
      | false =>
        rw [if_neg (by decide)]
        show Ev _ (decide (bt a.f1 (m : Int) = bt key (m : Int)) && mat ((wayM a).drop (m + 1)) ((bytesOf key).drop (m + 1)))
        by_cases hc : bt a.f1 (m : Int) = bt key (m : Int)
        · rw [decide_eq_true hc, Bool.true_and]
          exact Ev.congr (fun k => by rw [if_neg (by decide), if_pos hc.symm]) ih
        · rw [decide_eq_false hc, Bool.false_and]
          exact Ev.congr (fun k => by rw [if_neg (by decide), if_neg (fun h => hc h.symm)]) (Ev.now false)
theorem mat_short : ∀ (p : Wy) (key : List Int), key.length < p.length → mat p key = false
  | [], key, h => by simp at h
  | _ :: _, [], _ => rfl
  | none :: r, _ :: k, h => mat_short r k (by simpa using h)
  | some c :: r, b :: k, h => by
    show (decide (c = b) && mat r k) = false
    rw [mat_short r k (by simpa using h), Bool.and_false]
theorem fits_ev (a : S42) (key : ByteArray) (hn : a.f1.size ≤ 1000000000000) (hsa : a.f2.length ≤ 1000000000000) : Ev (fun k => spec_Fits.f k a.f0 a.f1 a.f2 a.f3 key) (mat (wayM a) (bytesOf key)) := by
  by_cases h : key.size < a.f1.size
  · rw [mat_short _ _ (by rw [bytesOf_length, wayM_len]; exact h)]
    exact Ev.congr (fun k => by unfold spec_Fits.f; rw [if_pos (by omega)]) (Ev.now false)
  · have := fits_go a key (by omega) hn hsa a.f1.size 0 (by omega)
    rw [List.drop_zero, List.drop_zero] at this
    exact Ev.congr (fun k => by unfold spec_Fits.f; rw [if_neg (by omega)]; rfl) this
/-! What is put among ascending numbers. -/
theorem sput_go (l : List Int) (hl : l.length ≤ 1000000000000) (n : Int) : ∀ d m : Nat, m + d = l.length → Ev (fun k => spec_put.l0 k l n (m : Int)) (l.take m ++ put n (l.drop m))
  | 0, m, hm => by
    have hm : m = l.length := by omega
    subst hm
    rw [drop_all, List.take_length]
    exact Ev.one (fun k => by
      rw [spec_put.l0, if_neg (by omega)]
      simp only [Option.bind_some]
      rw [if_pos (by omega), if_pos (by omega), if_pos (by simp; omega), if_pos (by simp; omega), if_pos (by simp; omega)]
      simp [put])
  | d + 1, m, hm => by
    have hml : m < l.length := by omega
    have hx := rdI hml
    have ih := sput_go l hl n d (m + 1) (by omega)
    rw [List.drop_eq_getElem_cons hml]
    by_cases h1 : l[m] < n
    · have e : l.take m ++ put n (l[m] :: l.drop (m + 1)) = l.take (m + 1) ++ put n (l.drop (m + 1)) := by
        rw [put, if_pos h1, List.take_succ_eq_append_getElem hml, List.append_assoc, List.singleton_append]
      rw [e]
      exact Ev.step (fun k => by rw [spec_put.l0, if_pos (by omega), if_pos (by omega), hx, if_pos h1, wrap_up (by omega)]) ih
    · by_cases h2 : l[m] = n
      · have e : l.take m ++ put n (l[m] :: l.drop (m + 1)) = l := by
          rw [put, if_neg h1, if_pos h2, ← List.drop_eq_getElem_cons hml, List.take_append_drop]
        rw [e]
        exact Ev.one (fun k => by rw [spec_put.l0, if_pos (by omega), if_pos (by omega), hx, if_neg h1, if_pos h2])
      · have e : l.take m ++ put n (l[m] :: l.drop (m + 1)) = l.take m ++ [n] ++ l.drop m := by
          rw [put, if_neg h1, if_neg h2, ← List.drop_eq_getElem_cons hml]
          simp
        rw [e]
        exact Ev.one (fun k => by
          rw [spec_put.l0, if_pos (by omega), if_pos (by omega), hx, if_neg h1, if_neg h2]
          simp only [Option.bind_some]
          rw [if_pos (by omega), if_pos (by simp; omega), if_pos (by simp; omega), if_pos (by simp; omega)]
          simp)
theorem sput_ev (l : List Int) (hl : l.length ≤ 1000000000000) (n : Int) : Ev (fun k => spec_put.f k l n) (put n l) := by
  have := sput_go l hl n l.length 0 (by omega)
  rw [List.take_zero, List.drop_zero, List.nil_append] at this
  exact this
theorem sfound_go (l : List S42) (hl : Small l) (key : ByteArray) : ∀ (d m : Nat) (out : List Int), m + d = l.length → out.length ≤ m →
    Ev (fun k => spec_Found.l0 k key out l (l.length : Int) (m : Int)) (((l.drop m).map ent).foldl (fun out e => if mat e.1 (bytesOf key) = true then put e.2 out else out) out)
  | 0, m, out, hm, ho => by
    have hm : m = l.length := by omega
    subst hm
    rw [drop_all]
    exact Ev.one (fun k => by rw [spec_Found.l0, if_neg (by omega)]; rfl)
  | d + 1, m, out, hm, ho => by
    have hll := hl.len
    have hml : m < l.length := by omega
    have hx := rd42 hml
    have h1 := hl.sp _ (List.getElem_mem hml)
    have h2 := hl.pre _ (List.getElem_mem hml)
    have hf := fits_ev l[m] key (by omega) (by omega)
    rw [List.drop_eq_getElem_cons hml, List.map_cons, List.foldl_cons]
    refine Ev.step (f := fun k => (spec_Fits.f k l[m].f0 l[m].f1 l[m].f2 l[m].f3 key).bind fun t367 => if t367 = true then ((spec_put.f k out l[m].f3).bind fun t368 => spec_Found.l0 k key t368 l (l.length : Int) ((m + 1 : Nat) : Int)) else spec_Found.l0 k key out l (l.length : Int) ((m + 1 : Nat) : Int)) (fun k => by rw [spec_Found.l0, if_pos (by omega), if_pos (by omega), if_pos (by omega), hx, wrap_up (by omega)]) ?_
    refine Ev.bind hf ?_
    show Ev _ (((l.drop (m + 1)).map ent).foldl _ (if mat (wayM l[m]) (bytesOf key) = true then put l[m].f3 out else out))
    cases mat (wayM l[m]) (bytesOf key) with
    | true =>
      rw [if_pos rfl]
      have hp := put_len l[m].f3 out
      exact Ev.congr (fun k => by rw [if_pos rfl]) (Ev.bind (sput_ev out (by omega) l[m].f3) (sfound_go l hl key d (m + 1) (put l[m].f3 out) (by omega) (by omega)))
    | false =>
      rw [if_neg (by decide)]
      exact Ev.congr (fun k => by rw [if_neg (by decide)]) (sfound_go l hl key d (m + 1) out (by omega) (by omega))
theorem sfound_ev (l : List S42) (hl : Small l) (key : ByteArray) : Ev (fun k => spec_Found.f k l key) (found (l.map ent) (bytesOf key)) := sfound_go l hl key l.length 0 [] (by omega) (by simp)
end Go.Proofs.YtnoolgbbpekomaaGreatDoor.Pc
