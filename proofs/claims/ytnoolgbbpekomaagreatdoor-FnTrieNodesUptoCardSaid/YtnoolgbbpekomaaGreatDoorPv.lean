/- How many ways there are: plain. -/
import Derived.Test.YtnoolgbbpekomaaGreatDoorPe
import Derived.Test.YtnoolgbbpekomaaGreatDoorUj
namespace Go.Proofs.YtnoolgbbpekomaaGreatDoor.Pd
open Go.RowKit YtnoolgbbpekomaaGreatDoorW.PrintWords YtnoolgbbpekomaaGreatDoorW.PrintLast YtnoolgbbpekomaaGreatDoorW.PrintMore T Tr Gp Fx Em Pa Pb Pc
set_option linter.unusedVariables false
set_option linter.unusedSimpArgs false
/-! How many ways there are. -/
def growK (p : Wy) (W : List Wy) (k : Nat) : List Wy := (List.range k).foldl (fun W k => if p.take k ∈ W then W else W ++ [p.take k]) W
theorem growK_succ (p : Wy) (W : List Wy) (k : Nat) : growK p W (k + 1) = if p.take k ∈ growK p W k then growK p W k else growK p W k ++ [p.take k] := by
  unfold growK
  rw [List.range_succ, List.foldl_append]
  rfl
theorem growK_mem (p : Wy) (W : List Wy) (hW : W.Pairwise (· ≠ ·)) (k : Nat) (q : Wy) : q ∈ growK p W k ↔ q ∈ W ∨ ∃ j, j < k ∧ q = p.take j := by
  unfold growK
  rw [(grow_go p (List.range k) W hW).2 q]
  simp only [List.mem_range]
/-- The matches up to one, the last first. -/
def upE (l : List S42) (i : Nat) : List En := ((l.take i).map ent).reverse
theorem upE_succ (l : List S42) (i : Nat) (h : i < l.length) : upE l (i + 1) = ent l[i] :: upE l i := by
  unfold upE
  rw [List.take_succ_eq_append_getElem h, List.map_append, List.reverse_append]
  rfl
theorem ways_succ (l : List S42) (i : Nat) (h : i < l.length) : Em.ways (upE l (i + 1)) = growK (wayM l[i]) (Em.ways (upE l i)) (l[i].f1.size + 1) := by
  rw [upE_succ l i h, Em.ways]
  show (List.range ((wayM l[i]).length + 1)).foldl _ _ = _
  rw [wayM_len]
  rfl
theorem take_ne {p : Wy} {j k : Nat} (hj : j < k) (hk : k ≤ p.length) : p.take k ≠ p.take j := by
  intro e
  have := congrArg List.length e
  rw [List.length_take, List.length_take] at this
  omega
/-- Whether some match ahead leads the same way for so many bytes. -/
def anyB (l : List S42) (m : S42) (k : Nat) : Bool := l.any fun x => decide (k ≤ x.f1.size) && decide ((wayM x).take k = (wayM m).take k)
theorem in_ways (l : List S42) (i : Nat) (m : S42) (k : Nat) (h1 : 1 ≤ k) (h2 : k ≤ m.f1.size) : (wayM m).take k ∈ Em.ways (upE l i) ↔ anyB (l.take i) m k = true := by
  rw [(ways_ok (upE l i)).2]
  unfold Live anyB
  rw [List.any_eq_true]
  have hlen : ((wayM m).take k).length = k := by rw [List.length_take, wayM_len]; omega
  constructor
  · rintro (h | ⟨e, he, hp⟩)
    · rw [h] at hlen
      simp at hlen
      omega
    · unfold upE at he
      rw [List.mem_reverse, List.mem_map] at he
      obtain ⟨x, hx, rfl⟩ := he
      have hp2 : (wayM m).take k <+: wayM x := hp
      have hl := hp2.length_le
      rw [hlen, wayM_len] at hl
      refine ⟨x, hx, ?_⟩
      have e := List.prefix_iff_eq_take.1 hp2
      rw [hlen] at e
      rw [Bool.and_eq_true, decide_eq_true_iff, decide_eq_true_iff]
      exact ⟨hl, e.symm⟩
  · rintro ⟨x, hx, h⟩
    rw [Bool.and_eq_true, decide_eq_true_iff, decide_eq_true_iff] at h
    refine .inr ⟨ent x, ?_, ?_⟩
    · unfold upE
      rw [List.mem_reverse]
      exact List.mem_map_of_mem hx
    · show (wayM m).take k <+: wayM x
      rw [← h.2]
      exact List.take_prefix _ _
theorem in_grow (l : List S42) (i : Nat) (m : S42) (k : Nat) (h1 : 1 ≤ k) (h2 : k ≤ m.f1.size) : (wayM m).take k ∈ growK (wayM m) (Em.ways (upE l i)) k ↔ anyB (l.take i) m k = true := by
  rw [growK_mem _ _ (ways_ok _).1, ← in_ways l i m k h1 h2]
  constructor
  · rintro (h | ⟨j, hj, e⟩)
    · exact h
    · exact absurd e (take_ne hj (by rw [wayM_len]; exact h2))
  · exact .inl
theorem grow_one (p : Wy) (E : List En) : growK p (Em.ways E) 1 = Em.ways E := by
  rw [growK_succ]
  have : p.take 0 ∈ growK p (Em.ways E) 0 := (((ways_ok E).2 []).2 (.inl rfl))
  rw [if_pos this]
  rfl
theorem growK_len (p : Wy) (W : List Wy) : ∀ k, (growK p W k).length ≤ W.length + k
  | 0 => Nat.le_refl _
  | k + 1 => by
    have := growK_len p W k
    rw [growK_succ]
    split
    · omega
    · rw [List.length_append, List.length_singleton]; omega
theorem ways_pos (E : List En) : 1 ≤ (Em.ways E).length := List.length_pos_of_mem (((ways_ok E).2 []).2 (.inl rfl))
theorem ways_len (l : List S42) (hp : ∀ m ∈ l, m.f1.size ≤ 2000) : ∀ i, i ≤ l.length → (Em.ways (upE l i)).length ≤ 1 + 2001 * i
  | 0, _ => by
    unfold upE
    simp [Em.ways]
  | i + 1, h => by
    have h1 := ways_len l hp i (by omega)
    have h2 := growK_len (wayM l[i]) (Em.ways (upE l i)) (l[i].f1.size + 1)
    have h3 := hp _ (List.getElem_mem (show i < l.length by omega))
    rw [ways_succ l i (by omega)]
    omega
theorem w2_go (l : List S42) (x0 : List S42) (m : S42) (hm2 : m.f2.length ≤ 1000000000000) (hs : ∀ x ∈ l, x.f2.length ≤ 1000000000000) (hl : l.length ≤ 1000000000000) (kk : Nat) (hk : kk ≤ m.f1.size) (hkb : kk ≤ 1000000000000) (x3 x4 x12 : Int) (x10 : List S42) (x11 : Int) {r : Int} :
    ∀ (d j : Nat) (fl : Bool), j + d = l.length →
      Ev (fun k => if (fl || anyB (l.drop j) m kk) = true then spec_Ways.l1 k x0 x3 x4 (wrap64 ((kk : Int) + 1)) x10 x11 x12 m.f0 m.f1 m.f2 m.f3 else spec_Ways.l1 k x0 (wrap64 (x3 + 1)) x4 (wrap64 ((kk : Int) + 1)) x10 x11 x12 m.f0 m.f1 m.f2 m.f3) r →
      Ev (fun k => spec_Ways.l2 k x0 x3 x4 (kk : Int) fl x10 x11 x12 l (l.length : Int) (j : Int) m.f0 m.f1 m.f2 m.f3) r
  | 0, j, fl, hj, h => by
    have hj : j = l.length := by omega
    subst hj
    rw [drop_all] at h
    have e : (fl || anyB [] m kk) = fl := by unfold anyB; simp
    rw [e] at h
    exact Ev.step (fun k => by rw [spec_Ways.l2, if_neg (by omega)]) h
  | d + 1, j, fl, hj, h => by
    have hjl : j < l.length := by omega
    have hx := rd42 hjl
    rw [List.drop_eq_getElem_cons hjl] at h
    have e : anyB (l[j] :: l.drop (j + 1)) m kk = ((decide (kk ≤ l[j].f1.size) && decide ((wayM l[j]).take kk = (wayM m).take kk)) || anyB (l.drop (j + 1)) m kk) := by
      unfold anyB
      rw [List.any_cons]
    rw [e] at h
    cases fl with
    | true =>
      rw [Bool.true_or] at h
      refine Ev.step (fun k => by rw [spec_Ways.l2, if_pos (by omega), if_pos (by omega), if_pos (by omega), if_pos rfl, wrap_up (by omega)]) (w2_go l x0 m hm2 hs hl kk hk hkb x3 x4 x12 x10 x11 d (j + 1) true (by omega) ?_)
      rw [Bool.true_or]
      exact h
    | false =>
      rw [Bool.false_or] at h
      by_cases hz : (l[j].f1.size : Int) ≥ (kk : Int)
      · rw [decide_eq_true (show kk ≤ l[j].f1.size by omega), Bool.true_and] at h
        have hss := start_ev l[j] m kk (by omega) hk hkb (hs _ (List.getElem_mem hjl)) hm2
        refine Ev.step (f := fun k => (spec_sameStart.f k l[j].f0 l[j].f1 l[j].f2 l[j].f3 m.f0 m.f1 m.f2 m.f3 (kk : Int)).bind fun t417 => spec_Ways.l2 k x0 x3 x4 (kk : Int) t417 x10 x11 x12 l (l.length : Int) ((j + 1 : Nat) : Int) m.f0 m.f1 m.f2 m.f3) (fun k => by rw [spec_Ways.l2, if_pos (by omega), if_pos (by omega), if_pos (by omega), if_neg (by decide), hx, if_pos hz, wrap_up (by omega)]) ?_
        exact Ev.bind hss (w2_go l x0 m hm2 hs hl kk hk hkb x3 x4 x12 x10 x11 d (j + 1) _ (by omega) h)
      · rw [decide_eq_false (show ¬ kk ≤ l[j].f1.size by omega), Bool.false_and, Bool.false_or] at h
        refine Ev.step (fun k => by rw [spec_Ways.l2, if_pos (by omega), if_pos (by omega), if_pos (by omega), if_neg (by decide), hx, if_neg hz, wrap_up (by omega)]) (w2_go l x0 m hm2 hs hl kk hk hkb x3 x4 x12 x10 x11 d (j + 1) false (by omega) ?_)
        rw [Bool.false_or]
        exact h
theorem w1_go (l : List S42) (hl : Small l) (hp : ∀ m ∈ l, m.f1.size ≤ 2000) (i : Nat) (hi : i < l.length) {r : Int}
    (h : Ev (fun k => spec_Ways.l0 k l (((Em.ways (upE l (i + 1))).length - 1 : Nat) : Int) l (l.length : Int) (wrap64 ((i : Int) + 1))) r) : ∀ (d kk : Nat), kk + d = l[i].f1.size + 1 → 1 ≤ kk →
      Ev (fun k => spec_Ways.l1 k l (((growK (wayM l[i]) (Em.ways (upE l i)) kk).length - 1 : Nat) : Int) (i : Int) (kk : Int) l (l.length : Int) (i : Int) l[i].f0 l[i].f1 l[i].f2 l[i].f3) r
  | 0, kk, hk, h1 => by
    have hk : kk = l[i].f1.size + 1 := by omega
    subst hk
    rw [← ways_succ l i hi]
    exact Ev.step (fun k => by rw [spec_Ways.l1, if_neg (by omega)]) h
  | d + 1, kk, hk, h1 => by
    have hps := hp _ (List.getElem_mem hi)
    have hll := hl.len
    have hsp := fun x (hx : x ∈ l.take i) => hl.sp x (List.mem_of_mem_take hx)
    have ih := w1_go l hl hp i hi h d (kk + 1) (by omega) (by omega)
    have hwl := ways_len l hp i (by omega)
    have hgl := growK_len (wayM l[i]) (Em.ways (upE l i)) kk
    have hpos := ways_pos (upE l i)
    have hgp : 1 ≤ (growK (wayM l[i]) (Em.ways (upE l i)) kk).length := List.length_pos_of_mem ((growK_mem _ _ (ways_ok _).1 kk []).2 (.inl (((ways_ok _).2 []).2 (.inl rfl))))
    have htl : (l.take i).length = i := by rw [List.length_take]; omega
    refine Ev.step (f := fun k => spec_Ways.l2 k l (((growK (wayM l[i]) (Em.ways (upE l i)) kk).length - 1 : Nat) : Int) (i : Int) (kk : Int) false l (l.length : Int) (i : Int) (l.take i) ((l.take i).length : Int) ((0 : Nat) : Int) l[i].f0 l[i].f1 l[i].f2 l[i].f3) (fun k => ?_) ?_
    · rw [spec_Ways.l1, if_pos (by omega), if_pos (by omega), if_pos (by omega), Option.bind_some]
      rfl
    · refine w2_go (l.take i) l l[i] (by have := hl.sp _ (List.getElem_mem hi); omega) (fun x hx => by have := hsp x hx; omega) (by omega) kk (by omega) (by omega) _ _ _ _ _ (l.take i).length 0 false (by omega) ?_
      rw [Bool.false_or, List.drop_zero]
      rw [growK_succ] at ih
      by_cases ha : anyB (l.take i) l[i] kk = true
      · have hin := (in_grow l i l[i] kk h1 (by omega)).2 ha
        rw [if_pos hin] at ih
        exact Ev.congr (fun k => by rw [if_pos ha, wrap_up (by omega)]) ih
      · have hin := fun hh : (wayM l[i]).take kk ∈ growK (wayM l[i]) (Em.ways (upE l i)) kk => ha ((in_grow l i l[i] kk h1 (by omega)).1 hh)
        rw [if_neg hin, List.length_append, List.length_singleton] at ih
        refine Ev.congr (fun k => ?_) ih
        rw [if_neg ha, wrap_up (m := kk) (by omega), wrap_up (by omega)]
        congr 2
        omega
theorem w0_go (l : List S42) (hl : Small l) (hp : ∀ m ∈ l, m.f1.size ≤ 2000) : ∀ (d i : Nat), i + d = l.length → Ev (fun k => spec_Ways.l0 k l (((Em.ways (upE l i)).length - 1 : Nat) : Int) l (l.length : Int) (i : Int)) (((Em.ways (upE l l.length)).length - 1 : Nat) : Int)
  | 0, i, hi => by
    have hi : i = l.length := by omega
    subst hi
    exact Ev.one (fun k => by rw [spec_Ways.l0, if_neg (by omega)])
  | d + 1, i, hi => by
    have hll := hl.len
    have hil : i < l.length := by omega
    have hx := rd42 hil
    have ih := w0_go l hl hp d (i + 1) (by omega)
    have := w1_go l hl hp i hil (r := (((Em.ways (upE l l.length)).length - 1 : Nat) : Int)) (Ev.congr (fun k => by rw [wrap_up (by omega)]) ih) l[i].f1.size 1 (by omega) (Nat.le_refl _)
    rw [grow_one] at this
    exact Ev.step (fun k => by rw [spec_Ways.l0, if_pos (by omega), if_pos (by omega), if_pos (by omega), hx]; rfl) this
theorem sways_ev (l : List S42) (hl : Small l) (hp : ∀ m ∈ l, m.f1.size ≤ 2000) : Ev (fun k => spec_Ways.f k l) ((nodes (l.map ent) - 1 : Nat) : Int) := by
  have h := w0_go l hl hp l.length 0 (by omega)
  have e : (Em.ways (upE l l.length)).length = nodes (l.map ent) := by
    unfold nodes
    refine once_same (ways_ok _).1 (ways_ok _).1 (fun q => ?_)
    rw [(ways_ok _).2, (ways_ok _).2]
    unfold Live upE
    rw [List.take_length]
    simp only [List.mem_reverse]
  rw [e] at h
  exact h
end Go.Proofs.YtnoolgbbpekomaaGreatDoor.Pd
