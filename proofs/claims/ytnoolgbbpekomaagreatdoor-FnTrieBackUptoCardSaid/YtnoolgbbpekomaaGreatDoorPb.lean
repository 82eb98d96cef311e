/- What the laws of the tries share: plain. The ways of matches, what is left of them, what a key finds. -/
import Derived.Test.YtnoolgbbpekomaaGreatDoorPa
namespace Go.Proofs.YtnoolgbbpekomaaGreatDoor.Pb
open Go.RowKit YtnoolgbbpekomaaGreatDoorW.PrintWords YtnoolgbbpekomaaGreatDoorW.PrintLast YtnoolgbbpekomaaGreatDoorW.PrintMore T Tr Gp Fx Em Pa
set_option linter.unusedVariables false
set_option linter.unusedSimpArgs false
/-- The way of a text, by what its holes are. -/
def wyF (h : Int → Bool) : Nat → List Int → Wy
  | _, [] => []
  | k, b :: t => (if h (k : Int) = true then none else some b) :: wyF h (k + 1) t
theorem wyF_len (h : Int → Bool) : ∀ (k : Nat) (l : List Int), (wyF h k l).length = l.length
  | _, [] => rfl
  | k, b :: t => by simp [wyF, wyF_len h (k + 1) t]
theorem wyF_at (h : Int → Bool) : ∀ (l : List Int) (k i : Nat) (hi : i < l.length), (wyF h k l)[i]? = some (if h ((k + i : Nat) : Int) = true then none else some l[i])
  | [], k, i, hi => by simp at hi
  | b :: t, k, 0, hi => by simp [wyF]
  | b :: t, k, i + 1, hi => by
    have := wyF_at h t (k + 1) i (by simpa using hi)
    rw [show k + 1 + i = k + (i + 1) by omega] at this
    simp only [wyF, List.getElem?_cons_succ, List.getElem_cons_succ]
    exact this
theorem wy_F (h : Int → Bool) : ∀ (l : List Int) (g : List Bool) (k : Nat), (∀ j : Nat, g.getD j false = h ((k + j : Nat) : Int)) → wy g l = wyF h k l
  | [], g, k, hg => by cases g <;> rfl
  | b :: t, [], k, hg => by
    have h0 := hg 0
    rw [Nat.add_zero] at h0
    rw [wyF, wy, ← h0, wy_F h t [] (k + 1) (fun j => by have := hg (j + 1); rw [show k + (j + 1) = k + 1 + j by omega] at this; simpa using this)]
    simp
  | b :: t, x :: g, k, hg => by
    have h0 := hg 0
    rw [Nat.add_zero] at h0
    rw [wyF, wy, ← h0, wy_F h t g (k + 1) (fun j => by have := hg (j + 1); rw [show k + (j + 1) = k + 1 + j by omega] at this; simpa using this)]
    simp
def wayM (m : S42) : Wy := wyF (inSp m.f2) 0 (bytesOf m.f1)
theorem wayM_len (m : S42) : (wayM m).length = m.f1.size := by unfold wayM; rw [wyF_len, bytesOf_length]
theorem bt_bytes (s : ByteArray) (i : Nat) (h : i < (bytesOf s).length) : (bytesOf s)[i] = bt s (i : Int) := by
  have h2 : i < s.size := by rw [bytesOf_length] at h; exact h
  have e : (bytesOf s)[i]? = some (bt s (i : Int)) := by
    unfold bytesOf bt
    rw [List.getElem?_map, dif_pos (by simpa using h2)]
    have h3 : s.data.toList[i]? = some s[i] := by
      rw [Array.getElem?_toList]
      exact Array.getElem?_eq_getElem h2
    rw [h3]
    rfl
  rw [List.getElem?_eq_getElem h] at e
  exact Option.some.inj e
theorem wayM_at (m : S42) (i : Nat) (h : i < m.f1.size) : (wayM m)[i]? = some (if inSp m.f2 (i : Int) = true then none else some (bt m.f1 (i : Int))) := by
  have h2 : i < (bytesOf m.f1).length := by rw [bytesOf_length]; exact h
  unfold wayM
  rw [wyF_at _ _ _ _ h2, Nat.zero_add, bt_bytes _ _ h2]
def ent (m : S42) : En := (wayM m, m.f3)
def stepM (E : List En) (m : S42) : List En := if m.f0 = true then takeOut (wayM m) m.f3 E else E ++ [ent m]
/-- What is left behind all turns. -/
def leftE (l : List S42) : List En := l.foldl stepM []
theorem mOk_pre {m : S42} (h : mOk m = true) : m.f1.size ≤ 2000 := by
  unfold mOk at h
  simp only [Bool.and_eq_true, decide_eq_true_eq] at h
  exact h.1
theorem mOk_sp {m : S42} (h : mOk m = true) : m.f2.all spOk = true := by
  unfold mOk at h
  simp only [Bool.and_eq_true] at h
  exact h.2.1
theorem mOk_id {m : S42} (h : mOk m = true) : 0 ≤ m.f3 ∧ m.f3 ≤ 1099511627776 := by
  unfold mOk at h
  simp only [Bool.and_eq_true, decide_eq_true_eq] at h
  exact h.2.2
theorem nats_ok {l : List S67} (h : l.all spOk = true) : ∀ x ∈ nats l, x.1 ≤ x.2 ∧ x.2 ≤ 2000 := by
  intro x hx
  obtain ⟨s, hs, rfl⟩ := List.mem_map.1 hx
  have : 0 ≤ s.f0 ∧ s.f0 ≤ s.f1 ∧ s.f1 ≤ 2000 := of_decide_eq_true (List.all_eq_true.1 h s hs)
  exact ⟨by show s.f0.toNat ≤ s.f1.toNat; omega, by show s.f1.toNat ≤ 2000; omega⟩
theorem in_nats {l : List S67} (h : l.all spOk = true) (k : Nat) : Dg.InSpan (nats l) k = inSp l (k : Int) := by
  unfold Dg.InSpan inSp nats
  rw [List.any_map, Bool.eq_iff_iff, List.any_eq_true, List.any_eq_true]
  have e : ∀ s ∈ l, (Function.comp (fun s : Nat × Nat => decide (s.1 ≤ k ∧ k ≤ s.2)) (fun s : S67 => (s.f0.toNat, s.f1.toNat))) s = true ↔ decide (s.f0 ≤ (k : Int) ∧ (k : Int) ≤ s.f1) = true := by
    intro s hs
    have : 0 ≤ s.f0 ∧ s.f0 ≤ s.f1 ∧ s.f1 ≤ 2000 := of_decide_eq_true (List.all_eq_true.1 h s hs)
    show decide (s.f0.toNat ≤ k ∧ k ≤ s.f1.toNat) = true ↔ _
    rw [decide_eq_true_iff, decide_eq_true_iff]
    omega
  exact ⟨fun ⟨s, h1, h2⟩ => ⟨s, h1, (e s h1).1 h2⟩, fun ⟨s, h1, h2⟩ => ⟨s, h1, (e s h1).2 h2⟩⟩
theorem parse_text (sp d : Bool) {l : List S67} (h : l.all spOk = true) : ∃ r, Pi.parse (textOf sp d l) = some (r, true) ∧ ∀ k : Nat, r.getD k false = inSp l (k : Int) := by
  obtain ⟨r, h1, h2⟩ := Dg.parse_holes sp d (nats l) (fun x hx => ⟨(nats_ok h x hx).1, by have := (nats_ok h x hx).2; omega⟩)
  exact ⟨r, h1, fun k => by rw [h2 k, in_nats h]⟩
theorem tail_len (sp d : Bool) : ∀ l : List (Nat × Nat), (∀ x ∈ l, x.1 ≤ x.2 ∧ x.2 ≤ 2000) → (Dg.tailT sp d l).length ≤ 4012 * l.length
  | [], _ => by simp [Dg.tailT]
  | x :: t, h => by
    have ih := tail_len sp d t (fun y hy => h y (List.mem_cons_of_mem _ hy))
    have hx := h x List.mem_cons_self
    have := spanT_len d x hx.1 hx.2
    have hp : (Dg.pre sp).length ≤ 1 := by unfold Dg.pre; split <;> simp
    unfold Dg.tailT at ih ⊢
    rw [List.flatMap_cons, List.length_append, List.length_cons, List.length_append, List.length_cons]
    omega
theorem text_len (sp d : Bool) {l : List S67} (h : l.all spOk = true) : (textOf sp d l).length ≤ 4012 * l.length := by
  unfold textOf
  have hn : (nats l).length = l.length := by simp [nats]
  have h2 := nats_ok h
  rw [← hn]
  generalize nats l = n at h2
  cases n with
  | nil => simp [Dg.holesT]
  | cons x t =>
    have hx := h2 x List.mem_cons_self
    have := spanT_len d x hx.1 hx.2
    have h3 := tail_len sp d t (fun y hy => h2 y (List.mem_cons_of_mem _ hy))
    rw [Dg.holesT, List.length_append, List.length_cons]
    omega
theorem tail_low (sp d : Bool) (l : List (Nat × Nat)) : ∀ b ∈ Dg.tailT sp d l, b.toNat < 128 := by
  intro b hb
  unfold Dg.tailT at hb
  obtain ⟨x, _, hx⟩ := List.mem_flatMap.1 hb
  rcases List.mem_cons.1 hx with e | hx
  · rw [e]; decide
  · rcases List.mem_append.1 hx with hx | hx
    · unfold Dg.pre at hx
      split at hx
      · rw [List.mem_singleton.1 hx]; decide
      · cases hx
    · have := (Df.span_bytes d x b hx).2
      omega
theorem text_low (sp d : Bool) (l : List S67) : ∀ b ∈ textOf sp d l, b.toNat < 128 := by
  intro b hb
  unfold textOf at hb
  generalize nats l = n at hb
  cases n with
  | nil => cases hb
  | cons x t =>
    rw [Dg.holesT] at hb
    rcases List.mem_append.1 hb with hb | hb
    · have := (Df.span_bytes d x b hb).2
      omega
    · exact tail_low sp d t b hb
theorem text_tok (sp d : Bool) {l : List S67} (h : l.all spOk = true) (hl : l.length ≤ 100000000) : Pi.TOk (textOf sp d l) := ⟨by have := text_len sp d h; omega, text_low sp d l⟩
theorem step_turnOf (sp d pl : Bool) {m : S42} (h : mOk m = true) (E : List En) : okT (turnOf sp d pl m) = true ∧ stepE E (turnOf sp d pl m) = stepM E m := by
  obtain ⟨r, hr, hg⟩ := parse_text sp d (mOk_sp h)
  have hid := mOk_id h
  have e1 : okT (turnOf sp d pl m) = true := by
    unfold okT
    split
    · rfl
    · show ((Pi.parse (ba (textOf sp d m.f2)).data.toList).getD ([], false)).2 = true
      rw [ba_list, hr]; rfl
  have e2 : wayT (turnOf sp d pl m) = wayM m := by
    unfold wayT wayM
    split
    · rename_i hk
      have hk2 : kindOf pl m < 2 := hk
      have hn : m.f2 = [] := by
        unfold kindOf at hk2
        split at hk2
        · split at hk2
          · rename_i h2; exact h2.2
          · omega
        · split at hk2
          · rename_i h2; exact h2.2
          · omega
      show wy [] (bytesOf m.f1) = _
      rw [hn]
      exact wy_F _ _ _ _ (fun j => by simp [inSp])
    · show wy ((Pi.parse (ba (textOf sp d m.f2)).data.toList).getD ([], false)).1 (bytesOf m.f1) = _
      rw [ba_list, hr]
      exact wy_F _ _ _ _ (fun j => by rw [Nat.zero_add]; exact hg j)
  have e3 : idT (turnOf sp d pl m) = m.f3 := by
    show IntKind.u64.wrap m.f3 = m.f3
    simp [IntKind.wrap, IntKind.bits, IntKind.signed]
    omega
  refine ⟨e1, ?_⟩
  unfold stepE stepM
  rw [if_pos e1, e2, e3]
  have hk : (turnOf sp d pl m).f0 = kindOf pl m := rfl
  rw [hk]
  by_cases h0 : m.f0 = true
  · rw [if_pos h0, if_neg]
    unfold kindOf
    rw [if_pos h0]
    split <;> omega
  · rw [if_neg h0, if_pos]
    · rfl
    · unfold kindOf
      rw [if_neg h0]
      split <;> omega
theorem entries_turns (sp d pl : Bool) (l : List S42) (h : l.all mOk = true) : entries (l.map (turnOf sp d pl)) = leftE l := by
  unfold entries leftE
  rw [List.foldl_map]
  have go : ∀ (l : List S42), l.all mOk = true → ∀ E : List En, l.foldl (fun E m => stepE E (turnOf sp d pl m)) E = l.foldl stepM E := by
    intro l
    induction l with
    | nil => intro _ E; rfl
    | cons m t ih =>
      intro h E
      rw [List.all_cons, Bool.and_eq_true] at h
      rw [List.foldl_cons, List.foldl_cons, (step_turnOf sp d pl h.1 E).2]
      exact ih h.2 _
  exact go l h []
theorem step_mem {E : List En} {m : S42} {e : En} (h : e ∈ stepM E m) : e ∈ E ∨ e = ent m := by
  unfold stepM at h
  split at h
  · exact .inl (out_mem.1 h).1
  · rcases List.mem_append.1 h with h | h
    · exact .inl h
    · exact .inr (List.mem_singleton.1 h)
theorem left_sub (l : List S42) : ∀ e ∈ leftE l, ∃ m ∈ l, e = ent m := by
  have go : ∀ (l : List S42) (E : List En), ∀ e ∈ l.foldl stepM E, e ∈ E ∨ ∃ m ∈ l, e = ent m := by
    intro l
    induction l with
    | nil => intro E e he; exact .inl he
    | cons m t ih =>
      intro E e he
      rw [List.foldl_cons] at he
      rcases ih _ e he with h | ⟨x, hx, h⟩
      · rcases step_mem h with h | h
        · exact .inl h
        · exact .inr ⟨m, List.mem_cons_self, h⟩
      · exact .inr ⟨x, List.mem_cons_of_mem _ hx, h⟩
  intro e he
  rcases go l [] e he with h | h
  · cases h
  · exact h
theorem step_len (E : List En) (m : S42) : (stepM E m).length ≤ E.length + 1 := by
  unfold stepM
  split
  · exact Nat.le_succ_of_le (List.length_filter_le _ _)
  · simp
theorem left_len (l : List S42) : (leftE l).length ≤ l.length := by
  have go : ∀ (l : List S42) (E : List En), (l.foldl stepM E).length ≤ E.length + l.length := by
    intro l
    induction l with
    | nil => intro E; simp
    | cons m t ih =>
      intro E
      rw [List.foldl_cons]
      have := ih (stepM E m)
      have := step_len E m
      rw [List.length_cons]
      omega
  have := go l []
  rw [List.length_nil, Nat.zero_add] at this
  exact this
theorem put_len (n : Int) : ∀ l : List Int, (put n l).length ≤ l.length + 1
  | [] => by simp [put]
  | a :: t => by
    have := put_len n t
    unfold put
    split
    · rw [List.length_cons, List.length_cons]; omega
    · split <;> simp
theorem found_len (E : List En) (key : List Int) : (found E key).length ≤ E.length := by
  have go : ∀ (E : List En) (out : List Int), (E.foldl (fun out e => if mat e.1 key = true then put e.2 out else out) out).length ≤ out.length + E.length := by
    intro E
    induction E with
    | nil => intro out; simp
    | cons e t ih =>
      intro out
      rw [List.foldl_cons]
      refine Nat.le_trans (ih _) ?_
      have := put_len e.2 out
      rw [List.length_cons]
      split <;> omega
  have := go E []
  rw [List.length_nil, Nat.zero_add] at this
  exact this
def rowsE (E : List En) (keys : List ByteArray) : List (List Int) := keys.map fun s => found E (bytesOf s)
theorem rows_wrap {l : List S42} (h : l.all mOk = true) (key : List Int) : (found (leftE l) key).map Go.RowKit.wrap64 = found (leftE l) key := by
  refine (List.map_congr_left (g := id) (fun i hi => ?_)).trans (List.map_id _)
  obtain ⟨e, he, _, rfl⟩ := found_mem.1 hi
  obtain ⟨m, hm, rfl⟩ := left_sub l e he
  have := mOk_id (List.all_eq_true.1 h m hm)
  show Go.RowKit.wrap64 m.f3 = m.f3
  unfold Go.RowKit.wrap64
  omega
/-- Keys of a size. -/
structure Keys (l : List ByteArray) : Prop where
  len : l.length ≤ 1000000000
  key : ∀ s ∈ l, s.size ≤ 1000000000
theorem sum_le (sp d pl : Bool) : ∀ (l : List S42), l.all mOk = true → ((l.map (turnOf sp d pl)).map (fun x => x.f1.size)).sum ≤ 2000 * l.length
  | [], _ => by simp
  | m :: t, h => by
    rw [List.all_cons, Bool.and_eq_true] at h
    have ih := sum_le sp d pl t h.2
    have : (turnOf sp d pl m).f1.size ≤ 2000 := mOk_pre h.1
    simp only [List.map_cons, List.sum_cons, List.length_cons]
    omega
theorem turn_ok (sp d pl : Bool) {m : S42} (h : mOk m = true) (hs : m.f2.length ≤ 100000000) : Rt.TurnOk (turnOf sp d pl m) := by
  have hk : (turnOf sp d pl m).f0 = kindOf pl m := rfl
  have ht := text_tok sp d (mOk_sp h) hs
  obtain ⟨r, hr, _⟩ := parse_text sp d (mOk_sp h)
  refine ⟨?_, ?_, ?_, ?_⟩
  · rw [hk]
    unfold kindOf
    split <;> split <;> omega
  · have : (turnOf sp d pl m).f1.size ≤ 2000 := mOk_pre h
    omega
  · show Pi.TOk (ba (textOf sp d m.f2)).data.toList
    rw [ba_list]; exact ht
  · refine ⟨(r, true), ?_, Ss.parse_len hr⟩
    show Pi.parse (ba (textOf sp d m.f2)).data.toList = _
    rw [ba_list]; exact hr
theorem run_ok (sp d pl : Bool) {l : List S42} {keys : List ByteArray} (hl : Small l) (h : l.all mOk = true) (hk : Keys keys) : RunOk (l.map (turnOf sp d pl)) keys := by
  have h1 := sum_le sp d pl l h
  have h2 := hl.len
  refine ⟨fun x hx => ?_, by omega, by rw [List.length_map]; omega, hk.key, hk.len⟩
  obtain ⟨m, hm, rfl⟩ := List.mem_map.1 hx
  exact turn_ok sp d pl (List.all_eq_true.1 h m hm) (hl.sp m hm)
theorem run_f (sp d pl : Bool) {l : List S42} {keys : List ByteArray} (hl : Small l) (h : l.all mOk = true) (hk : Keys keys) :
    impl_RunTrie.f (l.map (turnOf sp d pl)) keys = some (l.map (fun _ => true), rowsE (leftE l) keys, (nodes (leftE l) : Int)) := by
  unfold impl_RunTrie.f
  rw [if_pos (run_ok sp d pl hl h hk)]
  unfold rowsOf
  rw [entries_turns sp d pl l h, List.map_map]
  congr 1
  refine Prod.ext ?_ (Prod.ext ?_ rfl)
  · exact List.map_congr_left (fun m hm => (step_turnOf sp d pl (List.all_eq_true.1 h m hm) []).1)
  · exact List.map_congr_left (fun s _ => rows_wrap h _)
theorem rowsE_len (E : List En) (keys : List ByteArray) : (rowsE E keys).length = keys.length := by unfold rowsE; rw [List.length_map]
theorem rowsE_row {E : List En} {keys : List ByteArray} (h : E.length ≤ 1000000000000) : ∀ r ∈ rowsE E keys, r.length ≤ 1000000000000 := by
  intro r hr
  obtain ⟨s, _, rfl⟩ := List.mem_map.1 hr
  have := found_len E (bytesOf s)
  omega
theorem found_same {E F : List En} (h : ∀ e, e ∈ E ↔ e ∈ F) (key : List Int) : found E key = found F key :=
  sorted_one (found_sorted _ _) (found_sorted _ _) (fun i => by
    rw [found_mem, found_mem]
    constructor
    · rintro ⟨e, h1, h2⟩; exact ⟨e, (h e).1 h1, h2⟩
    · rintro ⟨e, h1, h2⟩; exact ⟨e, (h e).2 h1, h2⟩)
theorem rowsE_same {E F : List En} (h : ∀ e, e ∈ E ↔ e ∈ F) (keys : List ByteArray) : rowsE E keys = rowsE F keys := List.map_congr_left (fun s _ => found_same h _)
end Go.Proofs.YtnoolgbbpekomaaGreatDoor.Pb
