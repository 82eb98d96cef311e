/- FnTrieHole: the plain law, and the function whole. -/
import Derived.Test.YtnoolgbbpekomaaGreatDoorWj
namespace Go.Proofs.YtnoolgbbpekomaaGreatDoor.Qk
open Go.RowKit YtnoolgbbpekomaaGreatDoorW.PrintWords YtnoolgbbpekomaaGreatDoorW.PrintLast YtnoolgbbpekomaaGreatDoorW.PrintMore T Tr Gp Fx Em Pa Pb Pc Wj
set_option linter.unusedVariables false
set_option linter.unusedSimpArgs false
theorem within_f (n a b : Int) : spec_Within.f n a b = some (decide (a ≤ n ∧ n ≤ b)) := by
  unfold spec_Within.f
  by_cases h2 : n ≥ a
  · rw [if_pos h2]
    congr 1
    rw [decide_eq_decide]
    exact ⟨fun h => ⟨h2, h⟩, fun h => h.2⟩
  · rw [if_neg h2, decide_eq_false (fun h => h2 h.1)]
theorem mat_hole : ∀ (l1 : List Int) (p : Wy) (x y : Int) (l2 : List Int), p[l1.length]? = some none → mat p (l1 ++ x :: l2) = mat p (l1 ++ y :: l2)
  | [], [], _, _, _, h => by simp at h
  | [], none :: r, _, _, _, h => rfl
  | [], some c :: r, _, _, _, h => by simp at h
  | b :: l1, [], _, _, _, h => rfl
  | b :: l1, none :: r, x, y, l2, h => mat_hole l1 r x y l2 (by simpa using h)
  | b :: l1, some c :: r, x, y, l2, h => by
    show (decide (c = b) && mat r (l1 ++ x :: l2)) = (decide (c = b) && mat r (l1 ++ y :: l2))
    rw [mat_hole l1 r x y l2 (by simpa using h)]
theorem bytes_ext (s : ByteArray) (a b : Nat) : bytesOf (s.extract a b) = ((bytesOf s).take b).drop a := by
  unfold bytesOf
  rw [Ps.ext_list, List.map_drop, List.map_take]
theorem one_size (n : Int) : (strOfNums [n]).size = 1 := by simp [strOfNums]; rfl
theorem mat_other (m : S42) (key : ByteArray) (n : Int) (P : Nat) (h1 : P < m.f1.size) (h2 : P < key.size) (h : inSp m.f2 (P : Int) = true) :
    mat (wayM m) (bytesOf (key.extract 0 P ++ strOfNums [n] ++ key.extract (P + 1) key.size)) = mat (wayM m) (bytesOf key) := by
  have hl : (bytesOf key).length = key.size := bytesOf_length key
  obtain ⟨y, hy⟩ := List.length_eq_one_iff.1 (show (bytesOf (strOfNums [n])).length = 1 by rw [bytesOf_length, one_size])
  rw [bytes_app, bytes_app, hy, bytes_ext, bytes_ext, List.drop_zero, show (bytesOf key).take key.size = bytesOf key from List.take_of_length_le (by omega)]
  have hk : bytesOf key = (bytesOf key).take P ++ (bytesOf key)[P]'(by omega) :: (bytesOf key).drop (P + 1) := by
    rw [← List.drop_eq_getElem_cons, List.take_append_drop]
  rw [List.append_assoc, List.singleton_append]
  conv => rhs; rw [hk]
  refine mat_hole _ _ _ _ _ ?_
  rw [List.length_take, Nat.min_eq_left (by omega), wayM_at m P h1, if_pos h]
theorem found_one (m : S42) (key : List Int) : found [ent m] key = if mat (wayM m) key = true then put m.f3 [] else [] := rfl
theorem calls {w : World} {f0 : Bool} {f1 : ByteArray} {f2 : List S67} {f3 : Int} {A2 : Option Addr} {c2 : Nat} {key : ByteArray} {p b : Int} (hC2 : Kd.C k67 w A2 f2.length f2) (hc2 : f2.length ≤ c2) (hl : Pi.Laid w) (hs : Small [(⟨f0, f1, f2, f3⟩ : S42)]) (hk : key.size ≤ 100000000) :
    Calls Tryz.prog 8 #[.agg #[.bool f0, .string f1, .slice A2 f2.length c2, .int .i64 f3], .string key, .int .i64 p, .int .i64 b] w fun e w' => e = .returned (.bool true) ∧ Below w.heap.size w w' := by
  have hs1 : f1.size ≤ 100000000 := hs.pre _ (List.mem_singleton.2 rfl)
  have hs2 : f2.length ≤ 100000000 := hs.sp _ (List.mem_singleton.2 rfl)
  have hs' : Small [(⟨false, f1, f2, f3⟩ : S42)] := ⟨by simp, fun m hm => by rw [List.mem_singleton.1 hm]; exact hs2, fun m hm => by rw [List.mem_singleton.1 hm]; exact hs1⟩
  have hE : leftE [(⟨false, f1, f2, f3⟩ : S42)] = [ent ⟨false, f1, f2, f3⟩] := rfl
  have hfl := found_len (leftE [(⟨false, f1, f2, f3⟩ : S42)]) (bytesOf key)
  have hle : (leftE [(⟨false, f1, f2, f3⟩ : S42)]).length = 1 := rfl
  refine hole_calls hC2 hc2 hl hs2 hs1 hk _ _ _ _ (Ev.rounds (matches_ev _ hs)) (within_f _ _ _) (Ev.rounds (hole_ev f2 (by omega) p)) (within_f _ _ _) (fun h => ?_) (fun h => of_decide_eq_true h) (r := found (leftE [(⟨false, f1, f2, f3⟩ : S42)]) (bytesOf key)) (fun hm hp hh _ => ?_) (Ev.rounds (Pw.ints_ev _ (by omega)))
  · have := of_decide_eq_true h
    omega
  · have hp2 := of_decide_eq_true hp
    obtain ⟨P, rfl⟩ : ∃ P : Nat, p = (P : Int) := ⟨p.toNat, by omega⟩
    rw [Int.toNat_natCast]
    have hok : [(⟨false, f1, f2, f3⟩ : S42)].all mOk = true := hm
    have hK : Keys [key, key.extract 0 P ++ strOfNums [IntKind.u8.wrap b] ++ key.extract (P + 1) key.size] := by
      refine ⟨by simp, fun s hs => ?_⟩
      rcases List.mem_cons.1 hs with hs | hs
      · rw [hs]; omega
      · rw [List.mem_singleton.1 hs, size_app, size_app, one_size, ByteArray.size_extract, ByteArray.size_extract]
        omega
    have h1 := of_ev hs' hok hK
    have e : rowsE (leftE [(⟨false, f1, f2, f3⟩ : S42)]) [key, key.extract 0 P ++ strOfNums [IntKind.u8.wrap b] ++ key.extract (P + 1) key.size] = [found (leftE [(⟨false, f1, f2, f3⟩ : S42)]) (bytesOf key), found (leftE [(⟨false, f1, f2, f3⟩ : S42)]) (bytesOf key)] := by
      have hm2 := mat_other (⟨false, f1, f2, f3⟩ : S42) key (IntKind.u8.wrap b) P (by show P < f1.size; omega) (by omega) hh
      have h2 : found [ent (⟨false, f1, f2, f3⟩ : S42)] (bytesOf (key.extract 0 P ++ strOfNums [IntKind.u8.wrap b] ++ key.extract (P + 1) key.size)) = found [ent (⟨false, f1, f2, f3⟩ : S42)] (bytesOf key) := by
        rw [found_one, found_one, hm2]
      rw [hE]
      show [found [ent (⟨false, f1, f2, f3⟩ : S42)] (bytesOf key), found [ent (⟨false, f1, f2, f3⟩ : S42)] (bytesOf (key.extract 0 P ++ strOfNums [IntKind.u8.wrap b] ++ key.extract (P + 1) key.size))] = _
      rw [h2]
    rw [e] at h1
    exact Ev.rounds h1
end Go.Proofs.YtnoolgbbpekomaaGreatDoor.Qk
