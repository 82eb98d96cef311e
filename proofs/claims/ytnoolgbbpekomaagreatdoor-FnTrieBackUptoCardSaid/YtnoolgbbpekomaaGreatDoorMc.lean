/- What putting a number in leaves of a trie: the plain part. A new child on the way: what the store into its parent, or into its parent's map, leaves. A match put in: the walk of fix. Taking a number out: the append in place, and the plain part. A match taken out: the walk of fix. Add, AddMatch, Delete, DeleteMatch: the walks. Add, Delete, DeleteMatch: the walks. -/
import Derived.Test.YtnoolgbbpekomaaGreatDoorMb
namespace Go.Proofs.YtnoolgbbpekomaaGreatDoor.Fx
open Go.RowKit YtnoolgbbpekomaaGreatDoorW.PrintWords YtnoolgbbpekomaaGreatDoorW.PrintLast YtnoolgbbpekomaaGreatDoorW.PrintMore Fr Tr Nn YtnoolgbbpekomaaGreatDoor.Id
set_option linter.unusedVariables false
set_option linter.unusedSimpArgs false
/-- What a trie holds: at each way its numbers, if there is a node. -/
def sem (σ : List Nd) (q : Wy) : Option (List Int) := (at_ σ q).map (·.ids)
open Classical in
noncomputable def growS (p : Wy) (f : Wy → Option (List Int)) (q : Wy) : Option (List Int) := if q <+: p then some ((f q).getD []) else f q
open Classical in
noncomputable def addS (p : Wy) (i : Int) (f : Wy → Option (List Int)) (q : Wy) : Option (List Int) := if q = p then some ((f p).getD [] ++ [i]) else growS p f q
/-- The way of a text: its bytes, but at the places that do not count. -/
def wy : List Bool → List Int → Wy
  | _, [] => []
  | [], b :: t => some b :: wy [] t
  | h :: g, b :: t => (if h = true then none else some b) :: wy g t
theorem wy_len : ∀ (g : List Bool) (l : List Int), (wy g l).length = l.length
  | _, [] => by simp [wy]
  | [], b :: t => by simp [wy, wy_len [] t]
  | h :: g, b :: t => by simp [wy, wy_len g t]
theorem wy_at : ∀ (g : List Bool) (l : List Int) (k : Nat) (h : k < l.length), (wy g l)[k]? = some (if g.getD k false = true then none else some l[k])
  | _, [], k, h => by simp at h
  | [], b :: t, 0, h => by simp [wy]
  | [], b :: t, k + 1, h => by
    have := wy_at [] t k (by simpa using h)
    simp [wy] at this ⊢
    exact this
  | x :: g, b :: t, 0, h => by simp [wy]
  | x :: g, b :: t, k + 1, h => by
    have := wy_at g t k (by simpa using h)
    simp [wy] at this ⊢
    exact this
theorem wy_pad : ∀ (g : List Bool) (n : Nat) (l : List Int), wy (g ++ List.replicate n false) l = wy g l
  | _, _, [] => by simp [wy]
  | [], 0, b :: t => by simp
  | [], n + 1, b :: t => by
    have := wy_pad [] n t
    rw [List.nil_append] at this
    simp only [List.nil_append, List.replicate_succ, wy, this]
    simp
  | h :: g, n, b :: t => by
    simp only [List.cons_append, wy, wy_pad g n t]
theorem take_next {p : Wy} {k : Nat} {e : Stp} (h : p[k]? = some e) : p.take (k + 1) = p.take k ++ [e] := by
  obtain ⟨h1, h2⟩ := List.getElem?_eq_some_iff.1 h
  rw [List.take_succ_eq_append_getElem h1, h2]
/-- On the way: the nodes so far, where the walk stands. -/
structure Gro (w : World) (base : Nat) (σ : List Nd) (p : Wy) (n : Nd) (τ : List Nd) (w1 : World) : Prop where
  st : St w1 base τ
  mem : n ∈ τ
  path : n.path = p
  sem : ∀ q, sem τ q = growS p (sem σ) q
  len : τ.length ≤ σ.length + p.length
  tot : total τ = total σ
  root : nbAt τ [] = nbAt σ []
  own : ∀ i, Own τ i → Own σ i ∨ w.heap.size ≤ i
  kp : Kp w w1 (Own σ)
theorem pre_snoc {q p : Wy} {e : Stp} : q <+: p ++ [e] ↔ q <+: p ∨ q = p ++ [e] := by
  rw [List.prefix_concat_iff]
  exact or_comm
theorem pre_self (p : Wy) (e : Stp) : ¬ (p ++ [e] <+: p) := fun h => by
  have := h.length_le
  rw [List.length_append, List.length_singleton] at this
  omega
theorem grow_snoc (p : Wy) (e : Stp) (f : Wy → Option (List Int)) (q : Wy) : growS (p ++ [e]) f q = if q = p ++ [e] then some ((growS p f q).getD []) else growS p f q := by
  unfold growS
  by_cases h : q = p ++ [e]
  · subst h
    rw [if_pos (List.prefix_refl _), if_pos rfl, if_neg (pre_self p e)]
  · rw [if_neg h]
    by_cases h2 : q <+: p
    · rw [if_pos h2, if_pos (pre_snoc.2 (.inl h2))]
    · rw [if_neg h2, if_neg (fun h3 => (pre_snoc.1 h3).elim h2 h)]
theorem Gro.start {w w1 : World} {base : Nat} {σ : List Nd} {n : Nd} (h : St w base σ) (hn : n ∈ σ) (hp : n.path = []) (hb : Below w.heap.size w w1) : Gro w base σ [] n σ w1 := by
  refine ⟨h.below hb, hn, hp, fun q => ?_, Nat.le_refl _, rfl, rfl, fun i hi => .inl hi, .of_below hb _⟩
  unfold growS
  by_cases hq : q <+: []
  · rw [if_pos hq, List.prefix_nil.1 hq]
    have := at_mem h.once hn
    rw [hp] at this
    unfold Fx.sem
    rw [this]
    rfl
  · rw [if_neg hq]
theorem Gro.world {w w1 w2 : World} {base : Nat} {σ τ : List Nd} {p : Wy} {n : Nd} (h : Gro w base σ p n τ w1) (hb : Below w1.heap.size w1 w2) : Gro w base σ p n τ w2 :=
  ⟨h.st.below hb, h.mem, h.path, h.sem, h.len, h.tot, h.root, h.own, h.kp.below hb⟩
theorem Gro.go {w w1 : World} {base : Nat} {σ τ : List Nd} {p : Wy} {n m : Nd} {e : Stp} (h : Gro w base σ p n τ w1) (hm : at_ τ (p ++ [e]) = some m) : Gro w base σ (p ++ [e]) m τ w1 := by
  obtain ⟨m1, m2⟩ := at_some hm
  refine ⟨h.st, m1, m2, fun q => ?_, by have := h.len; simp; omega, h.tot, h.root, h.own, h.kp⟩
  rw [grow_snoc, ← h.sem q]
  by_cases hq : q = p ++ [e]
  · rw [if_pos hq, hq]
    unfold Fx.sem
    rw [hm]
    rfl
  · rw [if_neg hq]
theorem total_snoc (τ : List Nd) (m : Nd) : total (τ ++ [m]) = total τ + m.ids.length := by
  unfold total
  simp
theorem Gro.new {w w1 w2 : World} {base : Nat} {σ τ : List Nd} {p : Wy} {n m : Nd} {e : Stp} (h : Gro w base σ p n τ w1) (ha : at_ τ (p ++ [e]) = none) (hmp : m.path = p ++ [e]) (hmi : m.ids = []) (hs : St w2 base (τ ++ [m]))
    (hlo : w.heap.size ≤ m.nb ∧ w.heap.size ≤ m.mb ∧ ∀ i, m.v.ownBlock = some i → w.heap.size ≤ i) (hk : Kp w w2 (Own σ)) : Gro w base σ (p ++ [e]) m (τ ++ [m]) w2 := by
  refine ⟨hs, List.mem_append.2 (.inr (List.mem_singleton.2 rfl)), hmp, fun q => ?_, by have := h.len; simp; omega, ?_, ?_, fun i hi => ?_, hk⟩
  · rw [grow_snoc, ← h.sem q]
    unfold Fx.sem
    rw [at_append]
    by_cases hq : q = p ++ [e]
    · rw [if_pos hq, hq, ha]
      simp [at_, hmp, hmi]
    · rw [if_neg hq]
      have : at_ [m] q = none := by simp [at_, hmp, Ne.symm hq]
      rw [this]
      simp
  · rw [total_snoc, hmi, h.tot]; rfl
  · rw [nbAt_add _ (by rw [hmp]; exact ha), if_neg (by rw [hmp]; simp)]
    exact h.root
  · obtain ⟨k, hk2, hi⟩ := hi
    rcases List.mem_append.1 hk2 with hk2 | hk2
    · exact h.own i ⟨k, hk2, hi⟩
    · rw [List.mem_singleton.1 hk2] at hi
      rcases hi with rfl | rfl | hi
      · exact .inr hlo.1
      · exact .inr hlo.2.1
      · exact .inr (hlo.2.2 i hi)
/-- What a turn leaves. -/
structure Left (w : World) (base : Nat) (σ : List Nd) (f : Wy → Option (List Int)) (len tot : Nat) (σ2 : List Nd) (w2 : World) : Prop where
  st : St w2 base σ2
  sem : ∀ q, sem σ2 q = f q
  len : σ2.length ≤ len
  tot : total σ2 ≤ tot
  root : nbAt σ2 [] = nbAt σ []
  own : ∀ i, Own σ2 i → Own σ i ∨ w.heap.size ≤ i
  kp : Kp w w2 (Own σ)
theorem total_setV {nb : Nat} {v : Value} {ids : List Int} : ∀ {τ : List Nd} {n : Nd}, τ.Pairwise (fun a b => a.nb ≠ b.nb) → n ∈ τ → n.nb = nb → total (setV nb v ids τ) + n.ids.length = total τ + ids.length
  | [], n, _, h, _ => by cases h
  | x :: t, n, hp, h, e => by
    have ⟨h1, h2⟩ := List.pairwise_cons.1 hp
    have tc : ∀ (y : Nd) (l : List Nd), total (y :: l) = y.ids.length + total l := fun y l => by simp [total]
    have sc : setV nb v ids (x :: t) = (if x.nb = nb then { x with v := v, ids := ids } else x) :: setV nb v ids t := rfl
    rw [sc, tc, tc]
    rcases List.mem_cons.1 h with rfl | h
    · rw [if_pos e]
      have : setV nb v ids t = t := by
        unfold setV
        refine (List.map_congr_left (g := id) (fun y hy => ?_)).trans (List.map_id t)
        rw [if_neg (fun e2 => h1 y hy (e.trans e2.symm))]
        rfl
      rw [this]
      simp only
      omega
    · have ih := total_setV (v := v) (ids := ids) h2 h e
      rw [if_neg (fun e2 => h1 n h (e2.trans e.symm))]
      omega
/-- Other numbers at the node where the walk stands. -/
theorem Gro.done {w w1 w2 : World} {base : Nat} {σ τ : List Nd} {p : Wy} {n : Nd} {v : Value} {ids : List Int} (h : Gro w base σ p n τ w1) (hs : St w2 base (setV n.nb v ids τ)) (hk : Kp w w2 (Own σ))
    (hv : ∀ i, v.ownBlock = some i → Own τ i ∨ w.heap.size ≤ i) (tot : Nat) (ht : total τ + ids.length ≤ tot + n.ids.length) {f : Wy → Option (List Int)} (hf : ∀ q, f q = if q = p then some ids else growS p (Fx.sem σ) q) : Left w base σ f (σ.length + p.length) tot (setV n.nb v ids τ) w2 := by
  refine ⟨hs, fun q => ?_, ?_, ?_, ?_, fun i hi => ?_, hk⟩
  · rw [hf q, ← h.sem q]
    unfold Fx.sem
    rw [at_setV]
    by_cases hq : q = p
    · rw [if_pos hq, hq, ← h.path, at_mem h.st.once h.mem]
      simp
    · rw [if_neg hq]
      cases e : at_ τ q with
      | none => rfl
      | some m =>
        have hm := at_some e
        have : m.nb ≠ n.nb := fun e2 => hq (by rw [← hm.2, ← h.path, pw_ne h.st.nbs hm.1 h.mem e2])
        simp [this]
  · have := h.len
    unfold setV
    rw [List.length_map]
    exact this
  · have := total_setV (v := v) (ids := ids) h.st.nbs h.mem rfl
    omega
  · rw [nbAt_setV]; exact h.root
  · obtain ⟨k, hk2, hi⟩ := hi
    obtain ⟨k0, hk0, rfl⟩ := List.mem_map.1 hk2
    by_cases e : k0.nb = n.nb
    · rw [if_pos e] at hi
      rcases hi with rfl | rfl | hi
      · exact h.own _ ⟨k0, hk0, .inl rfl⟩
      · exact h.own _ ⟨k0, hk0, .inr (.inl rfl)⟩
      · exact (hv i hi).elim (h.own i) .inr
    · rw [if_neg e] at hi
      exact h.own i ⟨k0, hk0, hi⟩
end Go.Proofs.YtnoolgbbpekomaaGreatDoor.Fx
namespace Go.Proofs.YtnoolgbbpekomaaGreatDoor.Fy
open Go.RowKit YtnoolgbbpekomaaGreatDoorW.PrintWords YtnoolgbbpekomaaGreatDoorW.PrintLast YtnoolgbbpekomaaGreatDoorW.PrintMore Fr Tr Nn YtnoolgbbpekomaaGreatDoor.Id Rp Rw Sd Fx
set_option linter.unusedVariables false
set_option linter.unusedSimpArgs false
/-- What newNode leaves. -/
def Fresh (w : World) (nb mb : Nat) (v : Value) (w' : World) : Prop := w.heap.size ≤ nb ∧ w.heap.size ≤ mb ∧ w'.heap[nb]? = some (.cells #[.map (some mb), .pointer none, v] 106 (0, 0)) ∧ w'.heap[mb]? = some (.map (rawM .u8 []) 0) ∧ (Kd.int .u64).R 77 w' w.heap.size (fun _ => True) v [] ∧ Below w.heap.size w w'
theorem newNode_fresh (w : World) : Calls Tryz.prog 53 #[] w fun e w' => ∃ nb mb v, e = .returned (ptr nb) ∧ Fresh w nb mb v w' := by
  refine (newNode_calls w).mono ?_
  rintro e w' ⟨nb, mb, v, h0, h1, h2, h3, h4, h5, h6⟩
  exact ⟨nb, mb, v, h0, h1, h2, h3, h4, h5, h6⟩
theorem row_ne_blk {w : World} {base b : Nat} {v : Value} {L : List Int} {o : Obj} (hr : (Kd.int .u64).R 77 w base (fun _ => True) v L) (hb : w.heap[b]? = some o) (hn : ∀ cells, o ≠ .cells cells 77 (0, 0)) : ∀ i, v.ownBlock = some i → i ≠ b := fun i hi e => by
  subst e
  exact row_not hr hb hn hi.symm
theorem new_ptr {w w1 w5 : World} {base : Nat} {σ τ : List Nd} {p : Wy} {n : Nd} {nb mb : Nat} {v : Value} (h : Gro w base σ p n τ w1) (ha : at_ τ (p ++ [none]) = none) (hf : Fresh w1 nb mb v w5) :
    Gro w base σ (p ++ [none]) ⟨p ++ [none], nb, mb, v, []⟩ (τ ++ [⟨p ++ [none], nb, mb, v, []⟩]) (w5.setCell ⟨n.nb, 1, none⟩ (ptr nb)) := by
  obtain ⟨f1, f2, f3, f4, f5, f6⟩ := hf
  have ok := h.st.node n h.mem
  have hlt := blk_lt ok.blk
  obtain ⟨es, ck, hm⟩ := ok.kids
  have hltm := blk_lt hm.blk
  have hnm : n.mb ≠ n.nb := fun e => by have := hm.blk; rw [e, ok.blk] at this; cases this
  have hsz := h.kp.size
  have hb5 := (f6.block _ hlt).trans ok.blk
  have hbase : base ≤ w1.heap.size := by have := ok.lo.1; omega
  refine h.new ha rfl rfl ?_ ⟨Nat.le_trans hsz f1, Nat.le_trans hsz f2, fun i hi => Nat.le_trans hsz (Kd.R_base f5 i hi)⟩ ((h.kp.below f6).setCell ((h.own _ ⟨n, h.mem, .inl rfl⟩)) _)
  refine h.st.add (m := ⟨p ++ [none], nb, mb, v, []⟩) (e := none) h.mem (by rw [h.path]) ha ⟨f1, f2⟩ ((Below.heap_setCell _ _ _ _ (by simp; omega)).trans f3) ((Below.heap_setCell _ _ _ _ (by simp; omega)).trans f4) ?_ (fun i hi => Kd.R_base f5 i hi)
    (fun i hi h1 h2 => (Below.heap_setCell _ _ _ _ h1).trans (f6.block _ (h.st.own_lt hi).2)) (blk_put hb5 1 _ rfl) ?_
  · refine Kd.R_lower (Kd.R_mono (Kd.R_move (Kd.R_tight rfl f5) (fun i hi => Below.heap_setCell _ _ _ _ (fun e => ?_))) (fun _ _ => trivial)) hbase
    have := Kd.R_base f5 i hi.symm
    have e2 : i = n.nb := e
    omega
  · intro es0 ck0 hm0
    refine ⟨es0, ck0, ((Below.heap_setCell _ _ _ _ hnm).trans (f6.block _ hltm)).trans hm0.blk, hm0.once, hm0.born, hm0.clock, fun d => by simp⟩
theorem new_map {w w1 w5 : World} {base : Nat} {σ τ : List Nd} {p : Wy} {n : Nd} {nb mb : Nat} {v : Value} {c : Int} {es : List Ent} {ck : Nat} (h : Gro w base σ p n τ w1) (ha : at_ τ (p ++ [some c]) = none) (hf : Fresh w1 nb mb v w5) (hm : MapOk w1 τ n es ck) :
    Gro w base σ (p ++ [some c]) ⟨p ++ [some c], nb, mb, v, []⟩ (τ ++ [⟨p ++ [some c], nb, mb, v, []⟩]) (setO w5 n.mb (.map (rawM .u8 (storedE c (ptr nb) ck es)) (clockE c ck es))) := by
  obtain ⟨f1, f2, f3, f4, f5, f6⟩ := hf
  have ok := h.st.node n h.mem
  have hlt := blk_lt ok.blk
  have hltm := blk_lt hm.blk
  have hnm : n.mb ≠ n.nb := fun e => by have := hm.blk; rw [e, ok.blk] at this; cases this
  have hsz := h.kp.size
  have hb5 := (f6.block _ hlt).trans ok.blk
  have hbm5 := (f6.block _ hltm).trans hm.blk
  have hbase : base ≤ w1.heap.size := by have := ok.lo.1; omega
  have hlk : lookE c es = none := by rw [hm.look c, nbAt, h.path, ha]; rfl
  have hse : storedE c (ptr nb) ck es = es ++ [(c, ptr nb, ck)] := by unfold storedE; rw [hlk]; rfl
  have hce : clockE c ck es = ck + 1 := by unfold clockE; rw [hlk]; rfl
  refine h.new ha rfl rfl ?_ ⟨Nat.le_trans hsz f1, Nat.le_trans hsz f2, fun i hi => Nat.le_trans hsz (Kd.R_base f5 i hi)⟩ ((h.kp.below f6).setO ((h.own _ ⟨n, h.mem, .inr (.inl rfl)⟩)) _)
  refine h.st.add (m := ⟨p ++ [some c], nb, mb, v, []⟩) (e := some c) h.mem (by rw [h.path]) ha ⟨f1, f2⟩ ((setO_far _ _ (by simp; omega)).trans f3) ((setO_far _ _ (by simp; omega)).trans f4) ?_ (fun i hi => Kd.R_base f5 i hi)
    (fun i hi h1 h2 => (setO_far _ _ h2).trans (f6.block _ (h.st.own_lt hi).2)) ?_ ?_
  · refine Kd.R_lower (Kd.R_mono (Kd.R_move (Kd.R_tight rfl f5) (fun i hi => setO_far _ _ (fun e => ?_))) (fun _ _ => trivial)) hbase
    have := Kd.R_base f5 i hi.symm
    omega
  · exact (setO_far _ _ (Ne.symm hnm)).trans hb5
  · intro es0 ck0 hm0
    have h1 := hm0.blk
    rw [hm.blk] at h1
    injection h1 with h1
    injection h1 with h1 h2
    have := rawE_inj h1
    subst this
    subst h2
    refine ⟨es ++ [(c, ptr nb, ck)], ck + 1, by rw [← hse, ← hce]; exact setO_same hbm5, ?_, ?_, ?_, fun d => ?_⟩
    · refine List.pairwise_append.2 ⟨hm.once, List.pairwise_singleton _ _, fun a ha2 b hb e => ?_⟩
      rw [List.mem_singleton.1 hb] at e
      exact (look_none.1 hlk) a ha2 e
    · refine List.pairwise_append.2 ⟨hm.born, List.pairwise_singleton _ _, fun a ha2 b hb => ?_⟩
      rw [List.mem_singleton.1 hb]
      exact hm.clock a ha2
    · intro x hx
      rcases List.mem_append.1 hx with hx | hx
      · have := hm.clock x hx; omega
      · rw [List.mem_singleton.1 hx]; exact Nat.lt_succ_self _
    · have happ : ∀ l : List Ent, lookE d (l ++ [(c, ptr nb, ck)]) = (lookE d l).or (if c = d then some (ptr nb) else none) := by
        intro l
        induction l with
        | nil => simp [lookE]
        | cons x t ih =>
          simp only [List.cons_append, lookE]
          split
          · simp
          · exact ih
      rw [happ]
      by_cases e : c = d
      · subst e
        rw [hlk]
        simp
      · simp [e]
end Go.Proofs.YtnoolgbbpekomaaGreatDoor.Fy
namespace Go.Proofs.YtnoolgbbpekomaaGreatDoor.Fw
open Go.RowKit YtnoolgbbpekomaaGreatDoorW.PrintWords YtnoolgbbpekomaaGreatDoorW.PrintLast YtnoolgbbpekomaaGreatDoorW.PrintMore Fr Tr Nn YtnoolgbbpekomaaGreatDoor.Id Gw Rp Rw YtnoolgbbpekomaaGreatDoor.Pi Pj Pk Fx Fy
set_option linter.unusedVariables false
set_option linter.unusedSimpArgs false
def RelK (w2 : World) (base len : Nat) (g : List Bool) (k : Nat) (v10 : Value) (wr : World) : Prop :=
  ∃ (cur : List Bool), Kd.bool.R 4 wr base (fun _ => True) v10 cur ∧ padTo len cur = padTo len g ∧ cur.length ≤ 1001000001 ∧ Below base w2 wr ∧ k = len - cur.length
/-- What is kept behind the world w3. -/
structure Held (w3 : World) (S : Nat → Prop) (b5 : Nat) (A : Option Addr) (key : List Int) (cap : Nat) (s : ByteArray) (v10 : Value) (ig : List Bool) : Prop where
  row : ∀ w', Kp w3 w' S → (Kd.int .u8).C w' A key.length key
  box : ∀ w', Kp w3 w' S → w'.heap[b5]? = some (.cells #[.slice A key.length cap, .string s] 75 (0, 0))
  ig : ∀ w', Kp w3 w' S → ∃ A2 c2, v10 = .slice A2 ig.length c2 ∧ Kd.bool.C w' A2 ig.length ig
def RelW (w3 : World) (base : Nat) (σ : List Nd) (p : Wy) (k : Nat) (v9 v43 : Value) (wr : World) : Prop :=
  ∃ (i : Nat) (n : Nd) (τ : List Nd), v9 = ptr n.nb ∧ v43 = .int .i64 (i : Int) ∧ i ≤ p.length ∧ Gro w3 base σ (p.take i) n τ wr ∧ k = p.length - i
theorem own_any (A : Option Addr) (n c n' c' : Nat) : (Value.slice A n c).ownBlock = (Value.slice A n' c').ownBlock := by cases A <;> rfl
theorem ids_le {τ : List Nd} {n : Nd} (h : n ∈ τ) : n.ids.length ≤ total τ := by
  unfold total
  induction τ with
  | nil => cases h
  | cons x t ih =>
    simp only [List.map_cons, List.sum_cons]
    rcases List.mem_cons.1 h with rfl | h
    · omega
    · have := ih h; omega
theorem Left.back {w w3 w2 : World} {base len tot : Nat} {σ σ2 : List Nd} {f : Wy → Option (List Int)} (hb : Below w.heap.size w w3) (ho : ∀ i, Own σ i → i ≤ w.heap.size) (h : Fx.Left w3 base σ f len tot σ2 w2) : Fx.Left w base σ f len tot σ2 w2 :=
  ⟨h.st, h.sem, h.len, h.tot, h.root, fun i hi => (h.own i hi).imp id (fun h2 => Nat.le_trans hb.size h2), (Kp.of_below hb _).trans h.kp (fun i hi => .inl hi)⟩
theorem set_done {w wr w8 : World} {base cv : Nat} {σ τ : List Nd} {p : Wy} {n : Nd} {id : Int} {v8 : Value} {Av : Option Addr} (h : Gro w base σ p n τ wr)
    (hb : wr.heap[n.nb]? = some (.cells #[.map (some n.mb), ptrO (nbAt τ (n.path ++ [none])), .slice Av n.ids.length cv] 106 (0, 0))) (hr : (Kd.int .u64).R 77 wr base (fun _ => True) (.slice Av n.ids.length cv) n.ids) (hv : n.v = .slice Av n.ids.length cv)
    (ho : (Kd.int .u64).R 77 w8 base (fun _ => True) v8 (n.ids ++ [id])) (hg : wr.grownBy w8 (Value.slice Av n.ids.length cv).ownBlock) (hat : v8.ownBlock = (Value.slice Av n.ids.length cv).ownBlock ∨ ∃ b, v8.ownBlock = some b ∧ wr.heap.size ≤ b) :
    Fx.Left w base σ (addS p id (Fx.sem σ)) (σ.length + p.length) (total σ + 1) (setV n.nb v8 (n.ids ++ [id]) τ) (w8.setCell ⟨n.nb, 2, none⟩ v8) := by
  have hnr := row_not hr hb (fun cells h => by cases h)
  have hb8 := (hg.block n.nb (blk_lt hb) hnr).trans hb
  have hown : ∀ i, (Value.slice Av n.ids.length cv).ownBlock = some i → Own τ i := fun i hi => ⟨n, h.mem, .inr (.inr (by rw [hv]; exact hi))⟩
  have hsz := h.kp.size
  refine h.done (ids := n.ids ++ [id]) ?_ ?_ (fun i hi => ?_) _ ?_ (fun q => ?_)
  · refine h.st.setV h.mem (blk_put hb8 2 _ rfl) (fun i hi h1 h2 => ?_) (Kd.R_set ho hb8 tn 2 _) (fun i hi => ?_)
    · refine (Below.heap_setCell _ _ _ _ h1).trans (hg.block i (h.st.own_lt hi).2 (fun e => h2 ?_))
      rw [hv]; exact e.symm
    · rcases hat with e | ⟨b, e, hb2⟩
      · left; rw [hv, ← e]; exact hi
      · right; rw [e] at hi; injection hi with hi; omega
  · exact (h.kp.grown hg (fun k hk => h.own k (hown k hk))).setCell (h.own _ ⟨n, h.mem, .inl rfl⟩) _
  · rcases hat with e | ⟨b, e, hb2⟩
    · left; exact hown i (by rw [← e]; exact hi)
    · right; rw [e] at hi; injection hi with hi; omega
  · have := h.tot
    simp only [List.length_append, List.length_singleton]
    omega
  · unfold addS
    by_cases hq : q = p
    · rw [if_pos hq, if_pos hq]
      have h1 := h.sem p
      unfold growS at h1
      rw [if_pos (List.prefix_refl _)] at h1
      have h2 := at_mem h.st.once h.mem
      rw [h.path] at h2
      unfold Fx.sem at h1 ⊢
      rw [h2] at h1
      injection h1 with h1
      rw [← h1]
    · rw [if_neg hq, if_neg hq]
theorem ptr_of {σ : List Nd} {q : Wy} {m : Option Nd} (h : m = at_ σ q) : ptrO (nbAt σ q) = ptrO (m.map (·.nb)) := by rw [h]; rfl
def FixSetPost (w : World) (base : Nat) (σ : List Nd) (key : List Int) (r : List Bool × Bool) (id : Int) (e : Ending) (w' : World) : Prop :=
  (r.2 = false ∧ ∃ t p, e = .returned (.iface t p) ∧ Below w.heap.size w w') ∨ (r.2 = true ∧ e = .returned .nilIface ∧ ∃ σ2, Fx.Left w base σ (addS (wy r.1 key) id (Fx.sem σ)) (σ.length + key.length) (total σ + 1) σ2 w')
set_option maxHeartbeats 4000000 in
set_option maxRecDepth 100000 in
theorem fixSet_calls {w : World} {base tb cap : Nat} {σ : List Nd} {A : Option Addr} {key : List Int} {s : ByteArray} {id : Int} (h : St w base σ) (ht : Top w tb σ) (hl : Laid w) (hs : TOk s.data.toList) (r : List Bool × Bool) (hp : parse s.data.toList = some r) (hrl : r.1.length ≤ 1000001)
    (hcap : key.length ≤ cap) (hkl : key.length ≤ 1000000000) (hKey : ∀ w', Kp w w' (Own σ) → (Kd.int .u8).C w' A key.length key) (htot : total σ ≤ 1000000000000) :
    Calls Tryz.prog 55 #[ptr tb, .agg #[.slice A key.length cap, .string s], .int .u64 id, .int .i64 0] w (FixSetPost w base σ key r id) := by
  obtain ⟨rb, h1, h2⟩ := ht
  obtain ⟨n, hn, hnb⟩ := Option.map_eq_some_iff.1 h2
  obtain ⟨n1, n2⟩ := at_some hn
  rw [← hnb] at h1
  have hb1 : Below w.heap.size w (w.alloc (.cells #[.slice A key.length cap, .string s] 75)) := (Below.refl _ _).alloc (Nat.le_refl _) _
  have HP := Lib.hid (parse_calls (hl.below hb1) hs r hp)
  have q : (w.alloc (.cells #[.slice A key.length cap, .string s] 75)).cell? ⟨tb, 0, none⟩ = some (ptr n.nb) := blk_cell ((hb1.block _ (blk_lt h1)).trans h1) 0
  have hnew := blk_new w (.cells #[.slice A key.length cap, .string s] 75)
  have HNEW := Lib.hid hnew
  have q1 := blk_cell hnew 1
  have HB1 := Lib.hid hb1
  have HST := Lib.hid h
  have HN := Lib.hid n1
  have HNP := Lib.hid n2
  have HKEY := Lib.hid hKey
  have HTOT := Lib.hid htot
  have HRL := Lib.hid hrl
  clear h h1 h2 hn n1 n2 hnb hl hs hp hb1 hnew hKey htot hrl
  simp only [ptr] at q ⊢
  go_enter Tryz.func55, Tryz.ntmps55
  go_wp2_with fail
  refine HP.out.mono ?_
  rintro e w2 ⟨v10, ev, rfl, hrow, herr, hb2⟩
  have HROW := Lib.hid hrow
  have HB2 := Lib.hid hb2
  have s1 : (w.alloc (.cells #[.slice A key.length cap, .string s] 75)).heap.size = w.heap.size + 1 := by simp
  have HS2 := Lib.hid (show w.heap.size + 1 ≤ w2.heap.size by have := hb2.size; omega)
  have HB02 := Lib.hid (HB1.out.trans (hb2.mono HB1.out.size))
  have HBOX := Lib.hid ((hb2.block _ (blk_lt HNEW.out)).trans HNEW.out)
  clear hrow hb2 q q1 HP HB1
  unfold ErrIs at herr
  by_cases hr2 : r.2 = true
  · rw [if_pos hr2] at herr
    subst herr
    have HR2 := Lib.hid hr2
    obtain ⟨A0, c0, rfl⟩ := Kd.R_slice HROW.out
    have qb0 : w2.cell? ⟨w.heap.size, 0, none⟩ = some (.slice A key.length cap) := blk_cell HBOX.out 0
    have HROW2 := Lib.hid (show Kd.bool.R 4 w2 (w.heap.size + 1) (fun _ => True) (.slice A0 r.1.length c0) r.1 from s1 ▸ HROW.out)
    clear hr2 s1
    go_wp2_with fail
    go_loopg [10] (key.length - r.1.length) (fun kq v10 wx => RelK w2 (w.heap.size + 1) key.length r.1 kq v10 wx)
    case atStart => exact ⟨r.1, HROW2.out, rfl, by have := HRL.out; omega, Below.refl _ _, rfl⟩
    case round =>
      obtain ⟨cur, hrow, hpad, hlen, hbl, hk⟩ := hrel
      obtain ⟨A9, c9, rfl⟩ := Kd.R_slice hrow
      have qb := blk_cell ((hbl.block _ (Nat.lt_succ_self _)).trans HBOX.out) 0
      have HRC := Lib.hid hrow
      have HPC := Lib.hid hpad
      have HLC := Lib.hid hlen
      have HBC := Lib.hid hbl
      have HKC := Lib.hid hk
      clear hrow hpad hlen hbl hk qb0
      by_cases hc : cur.length < key.length
      · go_wp2_with ((with_reducible refine gate_builtin (b := .append) (xs := #[.tmp 37, .tmp 38]) rfl ?_); at_builtin; refine Kd.R_append Kd.bool (w0 := w2) (w.heap.size + 1) rfl (.tmp 37) (.tmp 38) 25 4 (.bool false) 1 rfl Tryz.underlying25 info4 rfl (by decide) (by omega) _ cur false [.bool false] (fun _ => True) (fun _ => False) rfl rfl ?aP (fun _ hk => hk.elim) ?aF ?aO ?aB ?aS ?aL ?_; (case aP => exact rfl); (case aB => exact HBC.out); (case aF => exact (fun _ _ => trivial)); (case aO => exact HRC.out); (case aS => exact Nat.le_trans HS2.out HBC.out.size); (case aL => have := HLC.out; omega); intro v8 w8 ho hb hg hat; have HO := Lib.hid ho; have HB8 := Lib.hid hb; have HG8 := Lib.hid hg; have HAT8 := Lib.hid hat; clear ho hb hg hat)
        go_roundg (key.length - (cur.length + 1))
        case measure => have := HKC.out; omega
        case rel => exact ⟨cur ++ [false], HO.out, (pad_more hc).trans HPC.out, by simp; omega, HB8.out, by simp⟩
      · have hpd := HPC.out
        rw [pad_done (by omega)] at hpd
        have HPD := Lib.hid hpd
        have hig : cur.length ≥ key.length := by omega
        clear hpd hc HPC
        obtain ⟨w3, rfl⟩ : ∃ w3, w3 = wr := ⟨_, rfl⟩
        have hb03 : Below w.heap.size w w3 := HB02.out.trans (HBC.out.mono (Nat.le_succ _))
        have own_lt : ∀ i, Own σ i → i < w.heap.size := fun i hi => (HST.out.own_lt hi).2
        have hheld : Held w3 (Own σ) w.heap.size A key cap s (.slice A9 cur.length c9) cur := by
          refine ⟨fun w' hk => HKEY.out w' ((Kp.of_below hb03 _).trans hk (fun i hi => .inl hi)), fun w' hk => ?_, fun w' hk => ⟨A9, c9, rfl, ?_⟩⟩
          · exact hk.blk ((HBC.out.block _ (Nat.lt_succ_self _)).trans HBOX.out) (fun ho => by have := own_lt _ ho; omega)
          · exact (Kd.R_reads' (Kd.R_move (Kd.R_tight rfl HRC.out) (fun i hi => hk.k i (Kd.R_lt HRC.out i hi.symm) (fun ho => by have := own_lt _ ho; have := Kd.R_base HRC.out i hi.symm; omega)))).2.2
        have hg0 : Gro w3 base σ [] n σ w3 := Gro.start (HST.out.below hb03) HN.out HNP.out (Below.refl _ _)
        have HELD := Lib.hid hheld
        have HG0 := Lib.hid hg0
        have HB03 := Lib.hid hb03
        have OL := Lib.hid own_lt
        have hcm : key.length ≤ 9223372036854775807 := by omega
        have hz36 : decide (cur.length < key.length) = false := decide_eq_false (by omega)
        clear hheld hg0 hb03 own_lt HRC HBC HKC HROW HROW2 HBOX HB02 HKEY HNEW
        go_wp2_with fail
        go_loopg [9, 43] key.length (fun kq v9 v43 wx => RelW w3 base σ (wy cur key) kq v9 v43 wx)
        case atStart => exact ⟨0, n, σ, rfl, rfl, Nat.zero_le _, HG0.out, by rw [wy_len]; rfl⟩
        case round =>
          obtain ⟨i, n2, τ, rfl, rfl, hi, hg, hk⟩ := hrel
          rw [wy_len] at hi hk
          have okn := hg.st.node n2 hg.mem
          have hpath := hg.path
          have HG := Lib.hid hg
          have HK := Lib.hid hk
          have HOK := Lib.hid okn
          have HPT := Lib.hid hpath
          clear hg hk okn hpath
          by_cases hlt : i < key.length
          · obtain ⟨ad, rfl, hcell⟩ := Kd.at_int (HELD.out.row wr HG.out.kp) (i : Int) (by omega) (by omega)
            obtain ⟨A2, c2, hv, hC⟩ := HELD.out.ig wr HG.out.kp
            obtain ⟨ad2, hA2, hcell2⟩ := Kd.at_bool hC (i : Int) (by omega) (by omega)
            injection hv with hv1 hv2 hv3
            rw [← hv1] at hA2
            subst hA2
            have hkc : wr.cell? (ad.add i) = some (.int .u8 key[i]) := by
              have : rd key (i : Int) = key[i] := by simp [rd, List.getD, hlt]
              rw [← this]
              exact hcell
            have hstep := wy_at cur key i hlt
            have hbc : wr.cell? (ad2.add i) = some (.bool (cur.getD i false)) := hcell2
            clear hcell hcell2 hC hv1 hv2 hv3
            by_cases hbit : cur.getD i false = true
            · rw [if_pos hbit] at hstep
              rw [hbit] at hbc
              have HTN := Lib.hid (take_next hstep)
              clear hstep hbit
              cases hm : at_ τ ((wy cur key).take i ++ [none]) with
              | some m =>
                have hic : wr.cell? ⟨n2.nb, 1, none⟩ = some (.pointer (some ⟨m.nb, 0, none⟩)) := by
                  have := blk_cell HOK.out.blk 1
                  rw [HPT.out, nbAt, hm] at this
                  exact this
                have HM := Lib.hid hm
                clear hm
                simp only [ptr]
                go_wp2_with fail
                go_roundg (key.length - (i + 1))
                case measure => have := HK.out; omega
                case rel => exact ⟨i + 1, m, τ, rfl, rfl, by rw [wy_len]; omega, by rw [HTN.out]; exact HG.out.go HM.out, by rw [wy_len]⟩
              | none =>
                have hic : wr.cell? ⟨n2.nb, 1, none⟩ = some (.pointer none) := by
                  have := blk_cell HOK.out.blk 1
                  rw [HPT.out, nbAt, hm] at this
                  exact this
                have HM := Lib.hid hm
                clear hm
                simp only [ptr]
                go_wp2_with fail
                refine (newNode_fresh wr).mono ?_
                rintro e w5 ⟨nb, mb, v, rfl, hf⟩
                have hb5 := (hf.2.2.2.2.2.block _ (blk_lt HOK.out.blk)).trans HOK.out.blk
                have hc5 := blk_cell hb5 1
                have hf5 := blk_frozen hb5 1
                have HF := Lib.hid hf
                clear hb5 hf hic
                simp only [ptr]
                go_wp2_with fail
                go_roundg (key.length - (i + 1))
                case measure => have := HK.out; omega
                case rel => exact ⟨i + 1, ⟨(wy cur key).take i ++ [none], nb, mb, v, []⟩, _, rfl, rfl, by rw [wy_len]; omega, by rw [HTN.out]; exact new_ptr HG.out HM.out HF.out, by rw [wy_len]⟩
            · rw [if_neg hbit] at hstep
              have hbit2 : cur.getD i false = false := by simpa using hbit
              rw [hbit2] at hbc
              have HTN := Lib.hid (take_next hstep)
              clear hstep hbit hbit2
              have hnc : wr.cell? ⟨n2.nb, 0, none⟩ = some (.map (some n2.mb)) := blk_cell HOK.out.blk 0
              obtain ⟨es, ck, hmo⟩ := HOK.out.kids
              have HMO := Lib.hid hmo
              have hlk : (lookE key[i] es).getD (.pointer none) = ptrO ((at_ τ ((wy cur key).take i ++ [some key[i]])).map (·.nb)) := by
                rw [hmo.look, HPT.out, nbAt]
                cases at_ τ ((wy cur key).take i ++ [some key[i]]) <;> rfl
              clear hmo
              cases hm : at_ τ ((wy cur key).take i ++ [some key[i]]) with
              | some m =>
                rw [hm] at hlk
                simp only [Option.map_some, ptrO, ptr] at hlk
                have HLK := Lib.hid hlk
                have HM := Lib.hid hm
                clear hm hlk
                simp only [ptr]
                go_wp2_with (at_lookup; refine wpL_look _ rfl _ _ rfl (.pointer none) Tryz.underlying104 Tryz.underlying5 (zero87 _) rfl rfl HMO.out.blk ?_; rw [HLK.out])
                go_roundg (key.length - (i + 1))
                case measure => have := HK.out; omega
                case rel => exact ⟨i + 1, m, τ, rfl, rfl, by rw [wy_len]; omega, by rw [HTN.out]; exact HG.out.go HM.out, by rw [wy_len]⟩
              | none =>
                rw [hm] at hlk
                simp only [Option.map_none, ptrO] at hlk
                have HLK := Lib.hid hlk
                have HM := Lib.hid hm
                clear hm hlk
                simp only [ptr]
                go_wp2_with (at_lookup; refine wpL_look _ rfl _ _ rfl (.pointer none) Tryz.underlying104 Tryz.underlying5 (zero87 _) rfl rfl HMO.out.blk ?_; rw [HLK.out])
                refine (newNode_fresh wr).mono ?_
                rintro e w5 ⟨nb, mb, v, rfl, hf⟩
                have hb5 := (hf.2.2.2.2.2.block _ (blk_lt HOK.out.blk)).trans HOK.out.blk
                have hbm5 := (hf.2.2.2.2.2.block _ (blk_lt HMO.out.blk)).trans HMO.out.blk
                have hc5 := blk_cell hb5 0
                have HF := Lib.hid hf
                have HBM5 := Lib.hid hbm5
                clear hb5 hf hnc hbm5
                simp only [ptr]
                go_wp2_with (at_mapUpdate; refine wpL_store _ rfl _ _ _ rfl (.pointer (some ⟨nb, 0, none⟩)) Tryz.underlying104 Tryz.underlying5 rfl rfl rfl HBM5.out ?_)
                go_roundg (key.length - (i + 1))
                case measure => have := HK.out; omega
                case rel => exact ⟨i + 1, ⟨(wy cur key).take i ++ [some key[i]], nb, mb, v, []⟩, _, rfl, rfl, by rw [wy_len]; omega, by rw [HTN.out]; exact new_map HG.out HM.out HF.out HMO.out, by rw [wy_len]⟩
          · have hik : i = key.length := by omega
            have hpf : (wy cur key).take i = wy cur key := by rw [List.take_of_length_le]; rw [wy_len]; omega
            have hwy : wy cur key = wy r.1 key := by rw [HPD.out]; exact wy_pad _ _ _
            have hg2 := HG.out
            rw [hpf, hwy] at hg2
            have hp2 := HPT.out
            rw [hpf, hwy] at hp2
            obtain ⟨Av, cv, hv⟩ := Kd.R_slice HOK.out.row
            have hrow2 := HOK.out.row
            rw [hv] at hrow2
            have hblk := HOK.out.blk
            rw [hv] at hblk
            have hcv := blk_cell hblk 2
            have hil : n2.ids.length ≤ 1000000000000 := by
              have h1 := ids_le hg2.mem
              have h2 := hg2.tot
              have h3 := HTOT.out
              omega
            have hbw : base ≤ wr.heap.size := by have := blk_lt hblk; have := HOK.out.lo.1; omega
            have HG2 := Lib.hid hg2
            have HP2 := Lib.hid hp2
            have HROW3 := Lib.hid hrow2
            have HBLK := Lib.hid hblk
            have HV := Lib.hid hv
            clear hg2 hp2 hrow2 hblk hv hik hpf hwy HG HPT HOK
            simp only [ptr]
            go_wp2_with ((with_reducible refine gate_builtin (b := .append) (xs := #[.tmp 90, .tmp 92]) rfl ?_); at_builtin; refine Kd.R_append (Kd.int .u64) (w0 := wr) base rfl (.tmp 90) (.tmp 92) 80 77 (.int .u64 0) 8 rfl Tryz.underlying80 info77 rfl (by decide) (by omega) (.slice Av n2.ids.length cv) n2.ids id [.int .u64 id] (fun _ => True) (fun _ => False) rfl rfl ?aP (fun _ hk => hk.elim) ?aF ?aO ?aB ?aS ?aL ?_; (case aP => exact rfl); (case aB => exact Below.refl _ _); (case aF => exact (fun _ _ => trivial)); (case aO => exact HROW3.out); (case aS => exact hbw); (case aL => omega); intro v8 w8 ho hb hg hat; obtain ⟨A8, c8, e8⟩ := Kd.R_slice ho; subst e8; rw [own_any A8 _ _ (n2.ids.length + 1) c8] at hat; have HO := Lib.hid ho; have HG8 := Lib.hid hg; have HAT8 := Lib.hid hat; have hblk8 := (hg.block n2.nb (blk_lt HBLK.out) (row_not HROW3.out HBLK.out (fun cells h => by cases h))).trans HBLK.out; have hc8 := blk_cell hblk8 2; have hf8 := blk_frozen hblk8 2; clear ho hb hg hat hblk8)
            go_ret
            have hO := HO.out
            simp only [List.length_append, List.length_singleton] at hO
            have hd := set_done HG2.out HBLK.out HROW3.out HV.out hO HG8.out HAT8.out
            rw [wy_len] at hd
            refine Or.inr ⟨HR2.out, rfl, _, Left.back HB03.out (fun i hi => Nat.le_of_lt (Nat.lt_of_lt_of_le (OL.out i hi) (Nat.le_refl _))) hd⟩
  · rw [if_neg hr2] at herr
    obtain ⟨te, pe, rfl⟩ := herr
    have HR2 := Lib.hid hr2
    clear hr2 s1
    go_wp2_with fail
    refine (new_calls _ w2).mono ?_
    rintro e w5 ⟨b5, rfl, hb5⟩
    have HB5 := Lib.hid hb5
    clear hb5
    go_wp2_with fail
    go_ret
    exact Or.inl ⟨by simpa using HR2.out, _, _, rfl, HB02.out.trans (HB5.out.mono HB02.out.size)⟩

end Go.Proofs.YtnoolgbbpekomaaGreatDoor.Fw
namespace Go.Proofs.YtnoolgbbpekomaaGreatDoor.Fz
open Go.RowKit YtnoolgbbpekomaaGreatDoorW.PrintWords YtnoolgbbpekomaaGreatDoorW.PrintLast YtnoolgbbpekomaaGreatDoorW.PrintMore Fr Tr Nn YtnoolgbbpekomaaGreatDoor.Id Sd Fx Fy Fw
set_option linter.unusedVariables false
set_option linter.unusedSimpArgs false
section
variable {P : Program} {ops : Array Oper} {rest : List Oper} {o : Oper} {a : Act} {Q : Exit → Act → World → Prop}
/-- An append onto a row with room: the next cell is written. -/
theorem wpL_room {W : World} (hgd : o.guard = none) (s x : Operand) (t e : TypeId) (ho : o.op = .call { callee := .builtin .append, args := #[s, x], argTypes := #[t, t] })
    (ht : P.underlying t = some (.slice e)) (z : Value) (bytes : Nat) (hinfo : (P.info? e).map (fun i => (i.zero, i.size, i.bytes)) = some (some z, 1, bytes)) (g k cap : Nat) (c : List Value) (u : Value) (h1 : u.oneCell' = true)
    (hs : a.eval s = .slice (some ⟨g, 0, none⟩) k cap) (hx : a.eval x = .slice (some ⟨W.heap.size, 0, none⟩) 1 1) (hb : W.heap[g]? = some (.cells c.toArray e (0, 0))) (hk : k < cap) (hc : c.length = cap)
    (h : ∀ w', w'.heap[g]? = some (.cells (c.set k u).toArray e (0, 0)) → W.grownBy w' (some g) → wpList P ops Q rest (a.put o.dst (.slice (some ⟨g, 0, none⟩) (k + 1) cap)) w') :
    wpList P ops Q (o :: rest) a (W.alloc (.cells #[u] e)) := by
  obtain ⟨i, hi, hie⟩ := Option.map_eq_some_iff.1 hinfo
  have hsz : i.size = 1 := by injection hie with _ h2; injection h2
  have hb2 : (W.alloc (.cells #[u] e)).heap[g]? = some (.cells c.toArray e (0, 0)) := (Below.heap_alloc _ _ _ (blk_lt hb)).trans hb
  have hr := run_append_room (P := P) (W.alloc (.cells #[u] e)) t o.type e i ht hi g k cap c.toArray hb2 ⟨W.heap.size, 0, none⟩ 1 1 [u] (by rw [hsz]; rfl) (fun j v hj => by
    cases j with
    | zero =>
      injection hj with hj
      subst hj
      exact blk_cell (blk_new W _) 0
    | succ j => simp at hj) (fun v hv => by rw [List.mem_singleton.1 hv]; exact h1) (by omega) (by rw [hsz]; simp; omega)
  refine wpList_plain hgd fun _ hK => ?_
  unfold Oper.wp execOp
  simp only [ho, resolve, invoke, builtin, Sem.run_bind, Sem.run_pure, Result.andThen_ok, List.map_toArray, List.map_cons, List.map_nil, hs, hx, hr]
  refine hK _ _ (h _ ?_ ?_)
  · rw [setRow_heap _ g c.toArray _ e _ hb2]
    congr 2
    rw [hsz, Nat.mul_one]
    rw [List.set_eq_take_append_cons_drop, if_pos (by omega)]
    simp
  · refine ⟨rfl, rfl, rfl, by simp, fun j hj hne => ?_⟩
    exact (setRow_other _ g j _ (fun e => hne (by simp [e]))).trans (Below.heap_alloc _ _ _ hj)
end
open Classical in
noncomputable def delS (p : Wy) (i : Int) (f : Wy → Option (List Int)) (q : Wy) : Option (List Int) := if q = p then (f p).map (fun l => l.filter (fun x => decide (x ≠ i))) else f q
def FixDelPost (w : World) (base : Nat) (σ : List Nd) (key : List Int) (r : List Bool × Bool) (id : Int) (e : Ending) (w' : World) : Prop :=
  (r.2 = false ∧ ∃ t p, e = .returned (.iface t p) ∧ Below w.heap.size w w') ∨ (r.2 = true ∧ e = .returned .nilIface ∧ ∃ σ2, Fx.Left w base σ (delS (wy r.1 key) id (Fx.sem σ)) σ.length (total σ) σ2 w')
/-- A way that leads nowhere. -/
theorem gone {w : World} {base : Nat} {σ : List Nd} (h : St w base σ) {p : Wy} {i : Nat} (hn : at_ σ (p.take i) = none) : at_ σ p = none := by
  cases e : at_ σ p with
  | none => rfl
  | some m =>
    obtain ⟨m1, m2⟩ := at_some e
    have := closed_pre h (p.drop i).length (p.drop i) (p.take i) m rfl m1 (by rw [m2, List.take_append_drop])
    rw [hn] at this
    cases this
theorem left_same {w w1 : World} {base : Nat} {σ : List Nd} {p : Wy} {id : Int} (h : St w base σ) (hb : Below w.heap.size w w1) (hn : at_ σ p = none) : Fx.Left w base σ (delS p id (Fx.sem σ)) σ.length (total σ) σ w1 := by
  refine ⟨h.below hb, fun q => ?_, Nat.le_refl _, Nat.le_refl _, rfl, fun i hi => .inl hi, .of_below hb _⟩
  unfold delS
  by_cases hq : q = p
  · rw [if_pos hq, hq]
    unfold Fx.sem
    rw [hn]
    rfl
  · rw [if_neg hq]
def RelY (w3 : World) (σ : List Nd) (p : Wy) (k : Nat) (v9 v43 : Value) (wr : World) : Prop :=
  ∃ (i : Nat) (n : Nd), v9 = ptr n.nb ∧ v43 = .int .i64 (i : Int) ∧ i ≤ p.length ∧ n ∈ σ ∧ n.path = p.take i ∧ Below w3.heap.size w3 wr ∧ k = p.length - i
/-- The loop over the numbers, those that stay moved to the front. -/
def RelZ (w4 : World) (g cap : Nat) (ids : List Int) (id : Int) (c0 : List Value) (k : Nat) (v15 v108 : Value) (wr : World) : Prop :=
  ∃ (j : Nat) (L : List Int) (c : List Value), v15 = .slice (some ⟨g, 0, none⟩) L.length cap ∧ v108 = .int .i64 (j : Int) ∧ j ≤ ids.length ∧ wr.heap[g]? = some (.cells c.toArray 77 (0, 0)) ∧ c.length = cap ∧ c.take L.length = L.map (Value.int .u64) ∧ c.drop j = c0.drop j ∧ L = (ids.take j).filter (fun x => decide (x ≠ id)) ∧ w4.grownBy wr (some g) ∧ k = ids.length - j
theorem grown_step {w w1 w2 : World} {g : Nat} (h : w.grownBy w1 (some g)) (h2 : w1.grownBy w2 (some g)) : w.grownBy w2 (some g) :=
  ⟨h2.os.trans h.os, h2.tape.trans h.tape, h2.output.trans h.output, Nat.le_trans h.size h2.size, fun k hk hne => (h2.block k (Nat.lt_of_lt_of_le hk h.size) hne).trans (h.block k hk hne)⟩
theorem filt_step (ids : List Int) (id : Int) (j : Nat) (h : j < ids.length) : (ids.take (j + 1)).filter (fun x => decide (x ≠ id)) = if ids[j] = id then (ids.take j).filter (fun x => decide (x ≠ id)) else (ids.take j).filter (fun x => decide (x ≠ id)) ++ [ids[j]] := by
  rw [List.take_succ_eq_append_getElem h, List.filter_append]
  by_cases e : ids[j] = id
  · rw [if_pos e]; simp [e]
  · rw [if_neg e]; simp [e]
theorem take_set (c : List Value) (k : Nat) (u : Value) (h : k < c.length) : (c.set k u).take (k + 1) = c.take k ++ [u] := by
  rw [List.set_eq_take_append_cons_drop, if_pos h]
  rw [List.take_append]
  simp [Nat.min_eq_left (Nat.le_of_lt h), List.take_take]
theorem drop_set (c : List Value) (k j : Nat) (u : Value) (h : k ≤ j) : (c.set k u).drop (j + 1) = c.drop (j + 1) := by
  rw [List.drop_set, if_pos (by omega)]
/-- Other numbers at a node, in the blocks that it had. -/
theorem del_done {w wr : World} {base : Nat} {σ : List Nd} {p : Wy} {n : Nd} {id : Int} {v8 : Value} (h : St w base σ) (hn : n ∈ σ) (hp : n.path = p) (hk : Kp w wr (fun i => n.v.ownBlock = some i)) (ho : (Kd.int .u64).R 77 wr base (fun _ => True) v8 (n.ids.filter (fun x => decide (x ≠ id)))) (hat : v8.ownBlock = n.v.ownBlock) :
    Fx.Left w base σ (delS p id (Fx.sem σ)) σ.length (total σ) (setV n.nb v8 (n.ids.filter (fun x => decide (x ≠ id))) σ) (wr.setCell ⟨n.nb, 2, none⟩ v8) := by
  have ok := h.node n hn
  have hnr := row_not ok.row ok.blk (fun cells h => by cases h)
  have hb8 := (hk.k n.nb (blk_lt ok.blk) (fun e => hnr e.symm)).trans ok.blk
  have hg : Gro w base σ p n σ w := by
    refine ⟨h, hn, hp, fun q => ?_, by omega, rfl, rfl, fun i hi => .inl hi, .refl _ _⟩
    unfold growS
    by_cases hq : q <+: p
    · rw [if_pos hq]
      have : (at_ σ q).isSome := by
        obtain ⟨r, hr⟩ := hq
        exact closed_pre h r.length r q n rfl hn (by rw [hp, hr])
      unfold Fx.sem
      cases e : at_ σ q with
      | none => rw [e] at this; cases this
      | some m => rfl
    · rw [if_neg hq]
  have hd := hg.done (v := v8) (ids := n.ids.filter (fun x => decide (x ≠ id))) (w2 := wr.setCell ⟨n.nb, 2, none⟩ v8) (f := delS p id (Fx.sem σ))
    (h.setV hn (blk_put hb8 2 _ rfl) (fun i hi h1 h2 => (Below.heap_setCell _ _ _ _ h1).trans (hk.k i (h.own_lt hi).2 h2)) (Kd.R_set ho hb8 tn 2 _) (fun i hi => .inl (by rw [← hat]; exact hi)))
    ((hk.mono (fun i hi => ⟨n, hn, .inr (.inr hi)⟩)).setCell (.inl ⟨n, hn, .inl rfl⟩) _) (fun i hi => .inl ⟨n, hn, .inr (.inr (by rw [← hat]; exact hi))⟩) (total σ) (by have := List.length_filter_le (fun x => decide (x ≠ id)) n.ids; omega) (fun q => ?_)
  · refine ⟨hd.st, hd.sem, by unfold setV; rw [List.length_map]; exact Nat.le_refl _, hd.tot, hd.root, hd.own, hd.kp⟩
  · have hm := at_mem h.once hn
    rw [hp] at hm
    unfold delS
    by_cases hq : q = p
    · rw [if_pos hq, if_pos hq]
      unfold Fx.sem
      rw [hm]
      rfl
    · rw [if_neg hq, if_neg hq]
      exact hg.sem q
end Go.Proofs.YtnoolgbbpekomaaGreatDoor.Fz
namespace Go.Proofs.YtnoolgbbpekomaaGreatDoor.Fv
open Go.RowKit YtnoolgbbpekomaaGreatDoorW.PrintWords YtnoolgbbpekomaaGreatDoorW.PrintLast YtnoolgbbpekomaaGreatDoorW.PrintMore Fr Tr Nn YtnoolgbbpekomaaGreatDoor.Id Gw Rp Rw YtnoolgbbpekomaaGreatDoor.Pi Pj Pk Fx Fy Fw Fz
set_option linter.unusedVariables false
set_option linter.unusedSimpArgs false
set_option maxHeartbeats 4000000 in
set_option maxRecDepth 100000 in
theorem fixDel_calls {w : World} {base tb cap : Nat} {σ : List Nd} {A : Option Addr} {key : List Int} {s : ByteArray} {id : Int} (h : St w base σ) (ht : Top w tb σ) (hl : Laid w) (hs : TOk s.data.toList) (r : List Bool × Bool) (hp : parse s.data.toList = some r) (hrl : r.1.length ≤ 1000001)
    (hcap : key.length ≤ cap) (hkl : key.length ≤ 1000000000) (hKey : ∀ w', Kp w w' (Own σ) → (Kd.int .u8).C w' A key.length key) (htot : total σ ≤ 1000000000000) :
    Calls Tryz.prog 55 #[ptr tb, .agg #[.slice A key.length cap, .string s], .int .u64 id, .int .i64 1] w (FixDelPost w base σ key r id) := by
  obtain ⟨rb, h1, h2⟩ := ht
  obtain ⟨n, hn, hnb⟩ := Option.map_eq_some_iff.1 h2
  obtain ⟨n1, n2⟩ := at_some hn
  rw [← hnb] at h1
  have hb1 : Below w.heap.size w (w.alloc (.cells #[.slice A key.length cap, .string s] 75)) := (Below.refl _ _).alloc (Nat.le_refl _) _
  have HP := Lib.hid (parse_calls (hl.below hb1) hs r hp)
  have q : (w.alloc (.cells #[.slice A key.length cap, .string s] 75)).cell? ⟨tb, 0, none⟩ = some (ptr n.nb) := blk_cell ((hb1.block _ (blk_lt h1)).trans h1) 0
  have hnew := blk_new w (.cells #[.slice A key.length cap, .string s] 75)
  have HNEW := Lib.hid hnew
  have q1 := blk_cell hnew 1
  have HB1 := Lib.hid hb1
  have HST := Lib.hid h
  have HN := Lib.hid n1
  have HNP := Lib.hid n2
  have HKEY := Lib.hid hKey
  have HTOT := Lib.hid htot
  have HRL := Lib.hid hrl
  clear h h1 h2 hn n1 n2 hnb hl hs hp hb1 hnew hKey htot hrl
  simp only [ptr] at q ⊢
  go_enter Tryz.func55, Tryz.ntmps55
  go_wp2_with fail
  refine HP.out.mono ?_
  rintro e w2 ⟨v10, ev, rfl, hrow, herr, hb2⟩
  have HROW := Lib.hid hrow
  have HB2 := Lib.hid hb2
  have s1 : (w.alloc (.cells #[.slice A key.length cap, .string s] 75)).heap.size = w.heap.size + 1 := by simp
  have HS2 := Lib.hid (show w.heap.size + 1 ≤ w2.heap.size by have := hb2.size; omega)
  have HB02 := Lib.hid (HB1.out.trans (hb2.mono HB1.out.size))
  have HBOX := Lib.hid ((hb2.block _ (blk_lt HNEW.out)).trans HNEW.out)
  clear hrow hb2 q q1 HP HB1
  unfold ErrIs at herr
  by_cases hr2 : r.2 = true
  · rw [if_pos hr2] at herr
    subst herr
    have HR2 := Lib.hid hr2
    obtain ⟨A0, c0, rfl⟩ := Kd.R_slice HROW.out
    have qb0 : w2.cell? ⟨w.heap.size, 0, none⟩ = some (.slice A key.length cap) := blk_cell HBOX.out 0
    have HROW2 := Lib.hid (show Kd.bool.R 4 w2 (w.heap.size + 1) (fun _ => True) (.slice A0 r.1.length c0) r.1 from s1 ▸ HROW.out)
    clear hr2 s1
    go_wp2_with fail
    go_loopg [10] (key.length - r.1.length) (fun kq v10 wx => RelK w2 (w.heap.size + 1) key.length r.1 kq v10 wx)
    case atStart => exact ⟨r.1, HROW2.out, rfl, by have := HRL.out; omega, Below.refl _ _, rfl⟩
    case round =>
      obtain ⟨cur, hrow, hpad, hlen, hbl, hk⟩ := hrel
      obtain ⟨A9, c9, rfl⟩ := Kd.R_slice hrow
      have qb := blk_cell ((hbl.block _ (Nat.lt_succ_self _)).trans HBOX.out) 0
      have HRC := Lib.hid hrow
      have HPC := Lib.hid hpad
      have HLC := Lib.hid hlen
      have HBC := Lib.hid hbl
      have HKC := Lib.hid hk
      clear hrow hpad hlen hbl hk qb0
      by_cases hc : cur.length < key.length
      · go_wp2_with ((with_reducible refine gate_builtin (b := .append) (xs := #[.tmp 37, .tmp 38]) rfl ?_); at_builtin; refine Kd.R_append Kd.bool (w0 := w2) (w.heap.size + 1) rfl (.tmp 37) (.tmp 38) 25 4 (.bool false) 1 rfl Tryz.underlying25 info4 rfl (by decide) (by omega) _ cur false [.bool false] (fun _ => True) (fun _ => False) rfl rfl ?aP (fun _ hk => hk.elim) ?aF ?aO ?aB ?aS ?aL ?_; (case aP => exact rfl); (case aB => exact HBC.out); (case aF => exact (fun _ _ => trivial)); (case aO => exact HRC.out); (case aS => exact Nat.le_trans HS2.out HBC.out.size); (case aL => have := HLC.out; omega); intro v8 w8 ho hb hg hat; have HO := Lib.hid ho; have HB8 := Lib.hid hb; have HG8 := Lib.hid hg; have HAT8 := Lib.hid hat; clear ho hb hg hat)
        go_roundg (key.length - (cur.length + 1))
        case measure => have := HKC.out; omega
        case rel => exact ⟨cur ++ [false], HO.out, (pad_more hc).trans HPC.out, by simp; omega, HB8.out, by simp⟩
      · have hpd := HPC.out
        rw [pad_done (by omega)] at hpd
        have HPD := Lib.hid hpd
        have hig : cur.length ≥ key.length := by omega
        clear hpd hc HPC
        obtain ⟨w3, rfl⟩ : ∃ w3, w3 = wr := ⟨_, rfl⟩
        have hb03 : Below w.heap.size w w3 := HB02.out.trans (HBC.out.mono (Nat.le_succ _))
        have own_lt : ∀ i, Own σ i → i < w.heap.size := fun i hi => (HST.out.own_lt hi).2
        have hheld : Held w3 (Own σ) w.heap.size A key cap s (.slice A9 cur.length c9) cur := by
          refine ⟨fun w' hk => HKEY.out w' ((Kp.of_below hb03 _).trans hk (fun i hi => .inl hi)), fun w' hk => ?_, fun w' hk => ⟨A9, c9, rfl, ?_⟩⟩
          · exact hk.blk ((HBC.out.block _ (Nat.lt_succ_self _)).trans HBOX.out) (fun ho => by have := own_lt _ ho; omega)
          · exact (Kd.R_reads' (Kd.R_move (Kd.R_tight rfl HRC.out) (fun i hi => hk.k i (Kd.R_lt HRC.out i hi.symm) (fun ho => by have := own_lt _ ho; have := Kd.R_base HRC.out i hi.symm; omega)))).2.2
        have HELD := Lib.hid hheld
        have HB03 := Lib.hid hb03
        have OL := Lib.hid own_lt
        have HST3 := Lib.hid (HST.out.below hb03)
        have hcm : key.length ≤ 9223372036854775807 := by omega
        have hz36 : decide (cur.length < key.length) = false := decide_eq_false (by omega)
        clear hheld hb03 own_lt HRC HBC HKC HROW HROW2 HBOX HB02 HKEY HNEW
        go_wp2_with fail
        go_loopg [9, 43] key.length (fun kq v9 v43 wx => RelY w3 σ (wy cur key) kq v9 v43 wx)
        case atStart => exact ⟨0, n, rfl, rfl, Nat.zero_le _, HN.out, HNP.out, Below.refl _ _, by rw [wy_len]; rfl⟩
        case round =>
          obtain ⟨i, n2, rfl, rfl, hi, hmem, hpath, hbl, hk⟩ := hrel
          rw [wy_len] at hi hk
          have hst := HST3.out.below hbl
          have HOK := Lib.hid (hst.node n2 hmem)
          have HG := Lib.hid hst
          have HK := Lib.hid hk
          have HPT := Lib.hid hpath
          have HMEM := Lib.hid hmem
          have HBL := Lib.hid hbl
          have HKP := Lib.hid (Kp.of_below hbl (Own σ))
          clear hst hk hpath hbl hmem
          by_cases hlt : i < key.length
          · obtain ⟨ad, rfl, hcell⟩ := Kd.at_int (HELD.out.row wr HKP.out) (i : Int) (by omega) (by omega)
            obtain ⟨A2, c2, hv, hC⟩ := HELD.out.ig wr HKP.out
            obtain ⟨ad2, hA2, hcell2⟩ := Kd.at_bool hC (i : Int) (by omega) (by omega)
            injection hv with hv1 hv2 hv3
            rw [← hv1] at hA2
            subst hA2
            have hkc : wr.cell? (ad.add i) = some (.int .u8 key[i]) := by
              have : rd key (i : Int) = key[i] := by simp [rd, List.getD, hlt]
              rw [← this]
              exact hcell
            have hstep := wy_at cur key i hlt
            have hbc : wr.cell? (ad2.add i) = some (.bool (cur.getD i false)) := hcell2
            clear hcell hcell2 hC hv1 hv2 hv3
            by_cases hbit : cur.getD i false = true
            · rw [if_pos hbit] at hstep
              rw [hbit] at hbc
              have HTN := Lib.hid (take_next hstep)
              clear hstep hbit
              cases hm : at_ σ ((wy cur key).take i ++ [none]) with
              | some m =>
                have hic : wr.cell? ⟨n2.nb, 1, none⟩ = some (.pointer (some ⟨m.nb, 0, none⟩)) := by
                  have := blk_cell HOK.out.blk 1
                  rw [HPT.out, nbAt, hm] at this
                  exact this
                have HM := Lib.hid hm
                clear hm
                simp only [ptr]
                go_wp2_with fail
                go_roundg (key.length - (i + 1))
                case measure => have := HK.out; omega
                case rel => exact ⟨i + 1, m, rfl, rfl, by rw [wy_len]; omega, (at_some HM.out).1, by rw [HTN.out]; exact (at_some HM.out).2, HBL.out, by rw [wy_len]⟩
              | none =>
                have hic : wr.cell? ⟨n2.nb, 1, none⟩ = some (.pointer none) := by
                  have := blk_cell HOK.out.blk 1
                  rw [HPT.out, nbAt, hm] at this
                  exact this
                have HM := Lib.hid hm
                clear hm
                simp only [ptr]
                go_wp2_with fail
                go_ret
                have hgn : at_ σ (wy cur key) = none := gone HST.out (i := i + 1) (by rw [HTN.out]; exact HM.out)
                rw [HPD.out] at hgn
                have hgn2 : at_ σ (wy r.1 key) = none := by rw [← wy_pad r.1 (key.length - r.1.length) key]; exact hgn
                exact Or.inr ⟨HR2.out, rfl, σ, left_same HST.out (HB03.out.trans (HBL.out.mono HB03.out.size)) hgn2⟩
            · rw [if_neg hbit] at hstep
              have hbit2 : cur.getD i false = false := by simpa using hbit
              rw [hbit2] at hbc
              have HTN := Lib.hid (take_next hstep)
              clear hstep hbit hbit2
              have hnc : wr.cell? ⟨n2.nb, 0, none⟩ = some (.map (some n2.mb)) := blk_cell HOK.out.blk 0
              obtain ⟨es, ck, hmo⟩ := HOK.out.kids
              have HMO := Lib.hid hmo
              have hlk : (lookE key[i] es).getD (.pointer none) = ptrO ((at_ σ ((wy cur key).take i ++ [some key[i]])).map (·.nb)) := by
                rw [hmo.look, HPT.out, nbAt]
                cases at_ σ ((wy cur key).take i ++ [some key[i]]) <;> rfl
              clear hmo
              cases hm : at_ σ ((wy cur key).take i ++ [some key[i]]) with
              | some m =>
                rw [hm] at hlk
                simp only [Option.map_some, ptrO, ptr] at hlk
                have HLK := Lib.hid hlk
                have HM := Lib.hid hm
                clear hm hlk
                simp only [ptr]
                go_wp2_with (at_lookup; refine wpL_look _ rfl _ _ rfl (.pointer none) Tryz.underlying104 Tryz.underlying5 (zero87 _) rfl rfl HMO.out.blk ?_; rw [HLK.out])
                go_roundg (key.length - (i + 1))
                case measure => have := HK.out; omega
                case rel => exact ⟨i + 1, m, rfl, rfl, by rw [wy_len]; omega, (at_some HM.out).1, by rw [HTN.out]; exact (at_some HM.out).2, HBL.out, by rw [wy_len]⟩
              | none =>
                rw [hm] at hlk
                simp only [Option.map_none, ptrO] at hlk
                have HLK := Lib.hid hlk
                have HM := Lib.hid hm
                clear hm hlk
                simp only [ptr]
                go_wp2_with (at_lookup; refine wpL_look _ rfl _ _ rfl (.pointer none) Tryz.underlying104 Tryz.underlying5 (zero87 _) rfl rfl HMO.out.blk ?_; rw [HLK.out])
                go_ret
                have hgn : at_ σ (wy cur key) = none := gone HST.out (i := i + 1) (by rw [HTN.out]; exact HM.out)
                rw [HPD.out] at hgn
                have hgn2 : at_ σ (wy r.1 key) = none := by rw [← wy_pad r.1 (key.length - r.1.length) key]; exact hgn
                exact Or.inr ⟨HR2.out, rfl, σ, left_same HST.out (HB03.out.trans (HBL.out.mono HB03.out.size)) hgn2⟩
          · have hpf : (wy cur key).take i = wy r.1 key := by
              rw [List.take_of_length_le (by rw [wy_len]; omega), HPD.out]
              exact wy_pad _ _ _
            have hp2 := HPT.out
            rw [hpf] at hp2
            have HP2 := Lib.hid hp2
            have hdone : ∀ v8 w8, Kp wr w8 (fun i => n2.v.ownBlock = some i) → (Kd.int .u64).R 77 w8 base (fun _ => True) v8 (n2.ids.filter (fun x => decide (x ≠ id))) → v8.ownBlock = n2.v.ownBlock → ∃ σ2, Fx.Left w base σ (delS (wy r.1 key) id (Fx.sem σ)) σ.length (total σ) σ2 (w8.setCell ⟨n2.nb, 2, none⟩ v8) := fun v8 w8 h1 h2 h3 =>
              ⟨_, Left.back (HB03.out.trans (HBL.out.mono HB03.out.size)) (fun i hi => Nat.le_of_lt (OL.out i hi)) (del_done HG.out HMEM.out HP2.out h1 h2 h3)⟩
            have HDONE := Lib.hid hdone
            have hown := Kd.own_of_R (enc := Value.int .u64) (h1 := fun _ => rfl) HOK.out.row
            have hil : n2.ids.length ≤ 1000000000000 := by
              have h1 := ids_le HMEM.out
              have h3 := HTOT.out
              omega
            have hnl := blk_lt HOK.out.blk
            have hfr := blk_frozen HOK.out.blk 2
            clear hpf hp2 hdone HP2 HPT HKP
            rcases hown.2 with ⟨hv, hn0⟩ | ⟨g, cp, cur2, hv, hgb, hgg, hcp, hcm2, hcs, htk⟩
            · have hblk := HOK.out.blk
              rw [hv] at hblk
              have hcv := blk_cell hblk 2
              have hids : n2.ids = [] := List.eq_nil_of_length_eq_zero hn0
              have HV := Lib.hid hv
              have HIDS := Lib.hid hids
              clear hblk hv hids hown hn0
              simp only [ptr]
              go_wp2_with fail
              obtain ⟨w4, rfl⟩ : ∃ w4, w4 = wr := ⟨_, rfl⟩
              go_loopg [15, 108] 0 (fun kq v15 v108 wx => v15 = .slice none 0 0 ∧ v108 = .int .i64 0 ∧ wx = w4)
              case atStart => exact ⟨rfl, rfl, rfl⟩
              case round =>
                obtain ⟨rfl, rfl, rfl⟩ := hrel
                go_wp2_with fail
                go_ret
                exact Or.inr ⟨HR2.out, rfl, HDONE.out _ _ (.refl _ _) (by rw [HIDS.out]; exact Kd.R_nil _ _ _ _ _) (by rw [HV.out])⟩
            · have hblk := HOK.out.blk
              rw [hv] at hblk
              have hcv := blk_cell hblk 2
              have HV := Lib.hid hv
              have HGG := Lib.hid hgg
              have HTK := Lib.hid htk
              have HCS := Lib.hid hcs
              clear hblk hv hown hgg htk hcs
              simp only [ptr]
              go_wp2_with fail
              obtain ⟨w4, rfl⟩ : ∃ w4, w4 = wr := ⟨_, rfl⟩
              have HBLK := Lib.hid HOK.out.blk
              have HNE := Lib.hid (row_not HOK.out.row HOK.out.blk (fun cells h => by cases h))
              clear hfr hcv
              go_loopg [15, 108] n2.ids.length (fun kq v15 v108 wx => RelZ w4 g cp n2.ids id cur2.toList kq v15 v108 wx)
              case atStart => exact ⟨0, [], cur2.toList, rfl, rfl, Nat.zero_le _, by simpa using HGG.out, by have := HCS.out; simp; omega, rfl, rfl, rfl, ⟨rfl, rfl, rfl, Nat.le_refl _, fun _ _ _ => rfl⟩, rfl⟩
              case round =>
                obtain ⟨j, L, c, rfl, rfl, hj, hb, hc, htake, hdrop, hL, hgr, hk⟩ := hrel
                have HB := Lib.hid hb
                have HC := Lib.hid hc
                have HTA := Lib.hid htake
                have HDR := Lib.hid hdrop
                have HL := Lib.hid hL
                have HGR := Lib.hid hgr
                have HKK := Lib.hid hk
                have hLj : L.length ≤ j := by
                  rw [hL]
                  refine Nat.le_trans (List.length_filter_le _ _) ?_
                  rw [List.length_take]
                  omega
                clear hb hc htake hdrop hL hgr hk
                by_cases hjl : j < n2.ids.length
                · have hcj : c[j]? = some (.int .u64 n2.ids[j]) := by
                    have h1 := congrArg (fun l => l[0]?) HDR.out
                    simp only [List.getElem?_drop, Nat.add_zero] at h1
                    rw [h1]
                    have h2 : (cur2.toList.take (n2.ids.length * 1))[j]? = (encs (Value.int .u64) n2.ids)[j]? := by rw [HTK.out]
                    rw [List.getElem?_take_of_lt (by omega)] at h2
                    rw [h2, encs, List.getElem?_map, List.getElem?_eq_getElem hjl]
                    rfl
                  have hc1 : wr.cell? ⟨g, j, none⟩ = some (.int .u64 n2.ids[j]) := by
                    have := blk_cell HB.out j
                    rw [this]
                    simpa using hcj
                  have hc2 := hc1
                  rw [← add0] at hc2
                  obtain ⟨x, hx⟩ : ∃ x, x = n2.ids[j] := ⟨_, rfl⟩
                  rw [← hx] at hc1 hc2
                  have HX := Lib.hid hx
                  clear hcj hx
                  by_cases hid : id = x
                  · have hnx : (id != x) = false := by simp [hid]
                    have HID := Lib.hid hid
                    clear hid
                    go_wp2_with fail
                    go_roundg (n2.ids.length - (j + 1))
                    case measure => have := HKK.out; omega
                    case rel =>
                      refine ⟨j + 1, L, c, rfl, rfl, by omega, HB.out, HC.out, HTA.out, ?_, ?_, HGR.out, rfl⟩
                      · have := congrArg (List.drop 1) HDR.out
                        simpa [List.drop_drop] using this
                      · rw [filt_step _ _ _ hjl, if_pos (by rw [← HX.out, HID.out]), HL.out]
                  · have hnx : (id != x) = true := by simp [hid]
                    have HID := Lib.hid hid
                    clear hid
                    go_wp2_with ((with_reducible refine gate_builtin (b := .append) (xs := #[.tmp 115, .tmp 117]) rfl ?_); at_builtin; refine wpL_room rfl (.tmp 115) (.tmp 117) 80 77 rfl Tryz.underlying80 (.int .u64 0) 8 info77 g L.length cp c (.int .u64 x) rfl rfl rfl HB.out (by omega) HC.out ?_; intro w8 hb8 hg8; have HB8 := Lib.hid hb8; have HG8 := Lib.hid hg8; clear hb8 hg8)
                    go_roundg (n2.ids.length - (j + 1))
                    case measure => have := HKK.out; omega
                    case rel =>
                      have hcl := HC.out
                      refine ⟨j + 1, L ++ [x], c.set L.length (.int .u64 x), by rw [List.length_append]; rfl, rfl, by omega, HB8.out, by rw [List.length_set]; exact HC.out, ?_, ?_, ?_, grown_step HGR.out HG8.out, rfl⟩
                      · rw [List.length_append, List.length_singleton, take_set _ _ _ (by omega), HTA.out, List.map_append]
                        rfl
                      · rw [drop_set _ _ _ _ hLj]
                        have := congrArg (List.drop 1) HDR.out
                        simpa [List.drop_drop] using this
                      · rw [filt_step _ _ _ hjl, if_neg (fun e => HID.out (by rw [HX.out, e])), HL.out, ← HX.out]
                · have hjn : n2.ids.take j = n2.ids := List.take_of_length_le (by omega)
                  have hLf := HL.out
                  rw [hjn] at hLf
                  have hbn := (HGR.out.block n2.nb hnl (by have := HNE.out; rw [HV.out] at this; exact this)).trans HBLK.out
                  have hcn := blk_cell hbn 2
                  have hfn := blk_frozen hbn 2
                  have HLF := Lib.hid hLf
                  clear hjn hLf hbn
                  go_wp2_with fail
                  go_ret
                  refine Or.inr ⟨HR2.out, rfl, HDONE.out _ _ (Kp.grown (.refl _ _) HGR.out (fun k hk => .inl (by rw [HV.out]; exact hk))) ?_ (by rw [HV.out]; rfl)⟩
                  rw [← HLF.out]
                  exact Kd.R_of_own (xs := L) ⟨by simp [encs], .inr ⟨g, cp, c.toArray, rfl, hgb, HB.out, by omega, hcm2, by simpa using HC.out, by rw [Nat.mul_one]; exact HTA.out⟩⟩ (fun _ _ => trivial)
  · rw [if_neg hr2] at herr
    obtain ⟨te, pe, rfl⟩ := herr
    have HR2 := Lib.hid hr2
    clear hr2 s1
    go_wp2_with fail
    refine (new_calls _ w2).mono ?_
    rintro e w5 ⟨b5, rfl, hb5⟩
    have HB5 := Lib.hid hb5
    clear hb5
    go_wp2_with fail
    go_ret
    exact Or.inl ⟨by simpa using HR2.out, _, _, rfl, HB02.out.trans (HB5.out.mono HB02.out.size)⟩
end Go.Proofs.YtnoolgbbpekomaaGreatDoor.Fv
namespace Go.Proofs.YtnoolgbbpekomaaGreatDoor.Ad
open Go.RowKit YtnoolgbbpekomaaGreatDoorW.PrintWords YtnoolgbbpekomaaGreatDoorW.PrintLast YtnoolgbbpekomaaGreatDoorW.PrintMore Fr Tr Nn YtnoolgbbpekomaaGreatDoor.Id Sd Rp Rw YtnoolgbbpekomaaGreatDoor.Pi Pj Fx Fy Fw Fz Fv
set_option linter.unusedVariables false
set_option linter.unusedSimpArgs false
open Classical in
/-- What is left without empty nodes. -/
noncomputable def pruneS (f : Wy → Option (List Int)) (q : Wy) : Option (List Int) := if q = [] ∨ ∃ t l, f (q ++ t) = some l ∧ l ≠ [] then f q else none
theorem alive_sem {σ : List Nd} (h : Once σ) (q : Wy) : alive σ q = true ↔ ∃ t l, Fx.sem σ (q ++ t) = some l ∧ l ≠ [] := by
  rw [alive_iff]
  constructor
  · rintro ⟨k, h1, h2, h3⟩
    obtain ⟨t, ht⟩ := Option.isSome_iff_exists.1 h2
    have hp := after_eq.1 ht
    refine ⟨t, k.ids, ?_, h3⟩
    unfold Fx.sem
    rw [← hp, at_mem h h1]
    rfl
  · rintro ⟨t, l, h1, h2⟩
    unfold Fx.sem at h1
    obtain ⟨k, k1, k2⟩ := Option.map_eq_some_iff.1 h1
    obtain ⟨k3, k4⟩ := at_some k1
    exact ⟨k, k3, by rw [k4, after_eq.2 rfl]; rfl, by rw [k2]; exact h2⟩
theorem sem_filter (g : Nd → Bool) (q : Wy) {σ : List Nd} (h : Once σ) : Fx.sem (σ.filter g) q = ((at_ σ q).filter g).map (·.ids) := by
  unfold Fx.sem
  rw [at_filter _ _ h]
theorem sem_sweep {σ : List Nd} (h : Once σ) (q : Wy) : Fx.sem (sweep σ []) q = pruneS (Fx.sem σ) q := by
  unfold sweep prn
  rw [sem_filter _ _ h]
  unfold pruneS
  rw [← alive_sem h q]
  cases hm : at_ σ q with
  | none =>
    have : Fx.sem σ q = none := by unfold Fx.sem; rw [hm]; rfl
    rw [this]
    simp
  | some m =>
    have hs : Fx.sem σ q = some m.ids := by unfold Fx.sem; rw [hm]; rfl
    have hp := (at_some hm).2
    rw [hs]
    simp only [Option.filter, after, hp]
    cases q with
    | nil => simp
    | cons x t =>
      by_cases ha : alive σ (x :: t) = true
      · simp [ha]
      · simp [ha]
theorem nbAt_sweep {σ : List Nd} (h : Once σ) : nbAt (sweep σ []) [] = nbAt σ [] := by
  unfold sweep prn nbAt
  rw [at_filter _ _ h]
  cases hm : at_ σ [] with
  | none => rfl
  | some m =>
    have hp := (at_some hm).2
    simp [Option.filter, after, hp]
theorem total_sub {σ τ : List Nd} (h : τ.Sublist σ) : total τ ≤ total σ := by
  induction h with
  | slnil => exact Nat.le_refl _
  | cons a _ ih => simp only [total, List.map_cons, List.sum_cons] at ih ⊢; omega
  | cons_cons a _ ih => simp only [total, List.map_cons, List.sum_cons] at ih ⊢; omega
theorem deep (σ : List Nd) : ∃ d, ∀ k ∈ σ, k.path.length ≤ d := by
  induction σ with
  | nil => exact ⟨0, fun k hk => by cases hk⟩
  | cons x t ih =>
    obtain ⟨d, hd⟩ := ih
    refine ⟨d + x.path.length, fun k hk => ?_⟩
    rcases List.mem_cons.1 hk with rfl | hk
    · omega
    · have := hd k hk; omega
theorem set_back {w w1 w' : World} {base : Nat} {σ : List Nd} {key : List Int} {r : List Bool × Bool} {id : Int} {e : Ending} (h : St w base σ) (hb : Below w.heap.size w w1) (hp : FixSetPost w1 base σ key r id e w') : FixSetPost w base σ key r id e w' := by
  rcases hp with ⟨h1, t, p, h2, h3⟩ | ⟨h1, h2, σ2, h3⟩
  · exact .inl ⟨h1, t, p, h2, hb.trans (h3.mono hb.size)⟩
  · exact .inr ⟨h1, h2, σ2, Left.back hb (fun i hi => Nat.le_of_lt (h.own_lt hi).2) h3⟩
theorem Top.kept {w w' : World} {base tb : Nat} {σ σ2 : List Nd} (h : St w base σ) (ht : Top w tb σ) (hk : Kp w w' (Own σ)) (hr : nbAt σ2 [] = nbAt σ []) : Top w' tb σ2 := by
  obtain ⟨rb, h1, h2⟩ := ht
  refine ⟨rb, hk.blk h1 (fun ⟨n, hn, ho⟩ => ?_), hr.trans h2⟩
  have ok := h.node n hn
  obtain ⟨es, ck, hm⟩ := ok.kids
  rcases ho with rfl | rfl | ho
  · have := ok.blk
    rw [h1] at this
    injection this with this
    injection this with _ h5 _
    exact absurd h5 (by decide)
  · have := hm.blk; rw [h1] at this; cases this
  · exact row_not ok.row h1 (fun cells h => by cases h) ho.symm
set_option maxHeartbeats 1000000 in
theorem addMatch_calls {w : World} {base tb cap : Nat} {σ : List Nd} {A : Option Addr} {key : List Int} {s : ByteArray} {id : Int} (h : St w base σ) (ht : Top w tb σ) (hl : Laid w) (hs : TOk s.data.toList) (r : List Bool × Bool) (hp : parse s.data.toList = some r) (hrl : r.1.length ≤ 1000001)
    (hcap : key.length ≤ cap) (hkl : key.length ≤ 1000000000) (hKey : ∀ w', Kp w w' (Own σ) → (Kd.int .u8).C w' A key.length key) (htot : total σ ≤ 1000000000000) :
    Calls Tryz.prog 46 #[ptr tb, .agg #[.slice A key.length cap, .string s], .int .u64 id] w (FixSetPost w base σ key r id) := by
  have hb1 : Below w.heap.size w (w.alloc (.cells #[.slice A key.length cap, .string s] 75)) := (Below.refl _ _).alloc (Nat.le_refl _) _
  have HC := Lib.hid (fixSet_calls (id := id) (h.below hb1) (ht.below hb1) (hl.below hb1) hs r hp hrl hcap hkl (fun w' hk => hKey w' ((Kp.of_below hb1 _).trans hk (fun i hi => .inl hi))) htot)
  have HB1 := Lib.hid hb1
  have HST := Lib.hid h
  have hnew := blk_new w (.cells #[.slice A key.length cap, .string s] 75)
  have q0 := blk_cell hnew 0
  have q1 := blk_cell hnew 1
  clear h ht hl hs hp hKey htot hb1 hrl hnew
  simp only [ptr] at HC ⊢
  go_enter Tryz.func46, Tryz.ntmps46
  go_wp2_with fail
  refine HC.out.mono ?_
  rintro e w2 hpost
  have HP := Lib.hid (set_back HST.out HB1.out hpost)
  rcases hpost with ⟨_, t, p, rfl, _⟩ | ⟨_, rfl, _⟩
  · clear HC
    go_wp2_with fail
    go_ret
    exact HP.out
  · clear HC
    go_wp2_with fail
    go_ret
    exact HP.out
end Go.Proofs.YtnoolgbbpekomaaGreatDoor.Ad
namespace Go.Proofs.YtnoolgbbpekomaaGreatDoor.Ae
open Go.RowKit YtnoolgbbpekomaaGreatDoorW.PrintWords YtnoolgbbpekomaaGreatDoorW.PrintLast YtnoolgbbpekomaaGreatDoorW.PrintMore Fr Tr Nn YtnoolgbbpekomaaGreatDoor.Id Sd Rp Rw YtnoolgbbpekomaaGreatDoor.Pi Pj Fx Fy Fw Fz Fv Ad
set_option linter.unusedVariables false
set_option linter.unusedSimpArgs false
theorem parse_nil : parse (⟨#[]⟩ : ByteArray).data.toList = some ([], true) := rfl
theorem tok_nil : TOk (⟨#[]⟩ : ByteArray).data.toList := ⟨Nat.zero_le _, fun b hb => by cases hb⟩
theorem Kp.from {w w1 w' : World} {S : Nat → Prop} (hb : Below w.heap.size w w1) (hk : Kp w1 w' S) : Kp w w' S := (Kp.of_below hb _).trans hk (fun i hi => .inl hi)
set_option maxHeartbeats 1000000 in
theorem add_calls {w : World} {base tb cap : Nat} {σ : List Nd} {A : Option Addr} {key : List Int} {id : Int} (h : St w base σ) (ht : Top w tb σ) (hl : Laid w)
    (hcap : key.length ≤ cap) (hkl : key.length ≤ 1000000000) (hKey : ∀ w', Kp w w' (Own σ) → (Kd.int .u8).C w' A key.length key) (htot : total σ ≤ 1000000000000) :
    Calls Tryz.prog 44 #[ptr tb, .slice A key.length cap, .int .u64 id] w fun e w' => e = .returned (.tuple #[]) ∧ ∃ σ2, Fx.Left w base σ (addS (wy [] key) id (Fx.sem σ)) (σ.length + key.length) (total σ + 1) σ2 w' := by
  have hC0 : ∀ w1, Below w.heap.size w w1 → Calls Tryz.prog 46 #[ptr tb, .agg #[.slice A key.length cap, .string ⟨#[]⟩], .int .u64 id] w1 (FixSetPost w base σ key ([], true) id) := fun w1 hb =>
    (addMatch_calls (h.below hb) (ht.below hb) (hl.below hb) tok_nil ([], true) parse_nil (Nat.zero_le _) hcap hkl (fun w' hk => hKey w' (Kp.from hb hk)) htot).mono (fun e w' hp => set_back h hb hp)
  have HC := Lib.hid hC0
  clear hC0
  have hsz : ∀ o : Obj, (w.alloc o).heap.size = w.heap.size + 1 := fun o => by simp
  clear h ht hl hKey htot
  simp only [ptr] at HC ⊢
  go_enter Tryz.func44, Tryz.ntmps44
  go_wp2_with fail
  refine (HC.out _ ?_).mono ?_
  · first
    | exact (Below.refl _ _).alloc (Nat.le_refl _) _
    | exact ((Below.refl _ _).alloc (Nat.le_refl _) _).setCell (Nat.le_refl _) _
    | exact (((Below.refl _ _).alloc (Nat.le_refl _) _).setCell (Nat.le_refl _) _).setCell (Nat.le_refl _) _
  rintro e w2 hpost
  rcases hpost with ⟨h1, _⟩ | ⟨_, rfl, hleft⟩
  · cases h1
  have HL := Lib.hid hleft
  clear hleft HC hsz
  go_wp2_with fail
  refine (assertTrue_calls w2).mono ?_
  rintro e w3 ⟨rfl, rfl⟩
  go_wp2_with fail
  go_end0
  exact ⟨rfl, HL.out⟩
def DelPost (w : World) (base : Nat) (σ : List Nd) (key : List Int) (r : List Bool × Bool) (id : Int) (e : Ending) (w' : World) : Prop :=
  (r.2 = false ∧ ∃ t p, e = .returned (.iface t p) ∧ Below w.heap.size w w') ∨ (r.2 = true ∧ e = .returned .nilIface ∧ ∃ σ2, Fx.Left w base σ (pruneS (delS (wy r.1 key) id (Fx.sem σ))) σ.length (total σ) σ2 w')
theorem swept {w w2 w3 : World} {base len tot : Nat} {σ σ2 : List Nd} {f : Wy → Option (List Int)} (h : Fx.Left w base σ f len tot σ2 w2) (hs : St w3 base (sweep σ2 [])) (hk : Kp w2 w3 (OwnB σ2 [])) : Fx.Left w base σ (pruneS f) len tot (sweep σ2 []) w3 := by
  have hsub : (sweep σ2 []).Sublist σ2 := List.filter_sublist
  have ef : Fx.sem σ2 = f := funext h.sem
  refine ⟨hs, fun q => by rw [sem_sweep h.st.once, ef], Nat.le_trans hsub.length_le h.len, Nat.le_trans (total_sub hsub) h.tot, (nbAt_sweep h.st.once).trans h.root, fun i hi => ?_, h.kp.trans hk (fun i hi => h.own i hi.own)⟩
  obtain ⟨n, hn, ho⟩ := hi
  exact h.own i ⟨n, hsub.subset hn, ho⟩
set_option maxHeartbeats 1000000 in
theorem delMatch_calls {w : World} {base tb cap : Nat} {σ : List Nd} {A : Option Addr} {key : List Int} {s : ByteArray} {id : Int} (h : St w base σ) (ht : Top w tb σ) (hl : Laid w) (hs : TOk s.data.toList) (r : List Bool × Bool) (hp : parse s.data.toList = some r) (hrl : r.1.length ≤ 1000001)
    (hcap : key.length ≤ cap) (hkl : key.length ≤ 1000000000) (hKey : ∀ w', Kp w w' (Own σ) → (Kd.int .u8).C w' A key.length key) (htot : total σ ≤ 1000000000000) (hlen : σ.length ≤ 1000000000000) :
    Calls Tryz.prog 47 #[ptr tb, .agg #[.slice A key.length cap, .string s], .int .u64 id] w (DelPost w base σ key r id) := by
  have hb1 : Below w.heap.size w (w.alloc (.cells #[.slice A key.length cap, .string s] 75)) := (Below.refl _ _).alloc (Nat.le_refl _) _
  have HC := Lib.hid (fixDel_calls (id := id) (h.below hb1) (ht.below hb1) (hl.below hb1) hs r hp hrl hcap hkl (fun w' hk => hKey w' (Kp.from hb1 hk)) htot)
  have HB1 := Lib.hid hb1
  have HST := Lib.hid h
  have HTOP := Lib.hid ht
  have hnew := blk_new w (.cells #[.slice A key.length cap, .string s] 75)
  have q0 := blk_cell hnew 0
  have q1 := blk_cell hnew 1
  clear h ht hl hs hp hKey htot hb1 hrl hnew
  simp only [ptr] at HC ⊢
  go_enter Tryz.func47, Tryz.ntmps47
  go_wp2_with fail
  refine HC.out.mono ?_
  rintro e w2 hpost
  rcases hpost with ⟨h1, t, p, rfl, h2⟩ | ⟨h1, rfl, σ2, h2⟩
  · have HP := Lib.hid (show DelPost w base σ key r id (.returned (.iface t p)) w2 from .inl ⟨h1, t, p, rfl, HB1.out.trans (h2.mono HB1.out.size)⟩)
    clear HC h1 h2
    go_wp2_with fail
    go_ret
    exact HP.out
  · have hL := Left.back HB1.out (fun i hi => Nat.le_of_lt (HST.out.own_lt hi).2) h2
    have H1 := Lib.hid h1
    obtain ⟨rb, t1, t2⟩ := Top.kept HST.out HTOP.out hL.kp hL.root
    obtain ⟨n, hn, hnb⟩ := Option.map_eq_some_iff.1 t2
    obtain ⟨n1, n2⟩ := at_some hn
    rw [← hnb] at t1
    have q : w2.cell? ⟨tb, 0, none⟩ = some (ptr n.nb) := blk_cell t1 0
    obtain ⟨d, hd⟩ := deep σ2
    have HRE := Lib.hid (re_calls d σ2 w2 n (Nat.le_trans hL.len hlen) hL.st n1 (fun k hk => by have := hd k hk; omega))
    have HL := Lib.hid hL
    have HN2 := Lib.hid n2
    clear h1 h2 hL t1 t2 hn n1 n2 hnb hd HC
    simp only [ptr] at q HRE
    go_wp2_with fail
    refine HRE.out.mono ?_
    rintro e w3 ⟨b, rfl, _, hs, hk⟩
    have HS := Lib.hid hs
    have HK := Lib.hid hk
    clear hs hk
    go_wp2_with fail
    go_ret
    refine Or.inr ⟨H1.out, rfl, _, swept HL.out (by have := HS.out; rw [HN2.out] at this; exact this) (by have := HK.out; rw [HN2.out] at this; exact this)⟩
set_option maxHeartbeats 1000000 in
theorem del_calls {w : World} {base tb cap : Nat} {σ : List Nd} {A : Option Addr} {key : List Int} {id : Int} (h : St w base σ) (ht : Top w tb σ) (hl : Laid w)
    (hcap : key.length ≤ cap) (hkl : key.length ≤ 1000000000) (hKey : ∀ w', Kp w w' (Own σ) → (Kd.int .u8).C w' A key.length key) (htot : total σ ≤ 1000000000000) (hlen : σ.length ≤ 1000000000000) :
    Calls Tryz.prog 45 #[ptr tb, .slice A key.length cap, .int .u64 id] w (DelPost w base σ key ([], true) id) := by
  have HC := Lib.hid (delMatch_calls (id := id) h ht hl tok_nil ([], true) parse_nil (Nat.zero_le _) hcap hkl hKey htot hlen)
  clear h ht hl hKey htot
  simp only [ptr] at HC ⊢
  go_enter Tryz.func45, Tryz.ntmps45
  go_wp2_with fail
  refine HC.out.mono ?_
  rintro e w2 hpost
  have HP := Lib.hid hpost
  rcases hpost with ⟨h1, _⟩ | ⟨_, rfl, _⟩
  · cases h1
  clear HC
  go_wp2_with fail
  go_ret
  exact HP.out
end Go.Proofs.YtnoolgbbpekomaaGreatDoor.Ae
