/- What process works on, and how each of its steps keeps what it does not touch. -/
import Derived.Test.YtimakagmhikhfaaWt
namespace Go.Proofs.Ytimakagmhikhfaa.Px
open Go.RowKit Go.Proofs.YtimakagmhikhfaaW.PrintWords Go.Proofs.YtimakagmhikhfaaW.PrintLast Go.Proofs.YtimakagmhikhfaaW.PrintMore Go.Proofs.Ytimakagmhikhfaa.Mk Go.Proofs.Ytimakagmhikhfaa.Fr Go.Proofs.Ytimakagmhikhfaa.Hp Go.Proofs.Ytimakagmhikhfaa.Wt
set_option linter.unusedVariables false
set_option linter.unusedSimpArgs false
/-! ### the pending indices -/
def PMap (es : List Ent) (l : List (Int × Int)) : Prop := es.map (fun x => (x.1, x.2.1)) = l.map (fun p => (p.1, Value.int .i64 p.2))
theorem PMap.look {i : Int} : ∀ {es : List Ent} {l : List (Int × Int)}, PMap es l → lookE i es = (cnt i l).map (.int .i64)
  | [], [], _ => rfl
  | [], _ :: _, h => by simp [PMap] at h
  | _ :: _, [], h => by simp [PMap] at h
  | x :: t, (j, c) :: l, h => by
    simp only [PMap, List.map_cons, List.cons.injEq, Prod.mk.injEq] at h
    obtain ⟨⟨h1, h2⟩, h3⟩ := h
    have ih := PMap.look (i := i) (es := t) (l := l) h3
    simp only [lookE, cnt, h1, h2]
    by_cases e : j = i
    · simp [e]
    · simp [e, ih]
theorem PMap.len {es : List Ent} {l : List (Int × Int)} (h : PMap es l) : es.length = l.length := by
  have := congrArg List.length h
  simpa using this
theorem PMap.put {i x : Int} : ∀ {es : List Ent} {l : List (Int × Int)}, PMap es l → KeysOnce l → (cnt i l).isSome → PMap (putE i (.int .i64 x) es) (l.map fun p => if p.1 = i then (p.1, x) else p)
  | [], [], _, _, h => by simp [cnt] at h
  | [], _ :: _, h, _, _ => by simp [PMap] at h
  | _ :: _, [], h, _, _ => by simp [PMap] at h
  | y :: t, (j, c) :: l, h, ho, hc => by
    simp only [PMap, List.map_cons, List.cons.injEq, Prod.mk.injEq] at h
    obtain ⟨⟨h1, h2⟩, h3⟩ := h
    have ⟨o1, o2⟩ := List.pairwise_cons.1 ho
    simp only [cnt] at hc
    simp only [putE, h1]
    by_cases e : j = i
    · subst e
      simp only [if_true, PMap, List.map_cons, List.cons.injEq, h1, true_and]
      rw [List.map_congr_left (g := id) (l := l) (fun p hp => by simp [Ne.symm (o1 p hp)]), List.map_id]
      exact h3
    · rw [if_neg e] at hc
      have ih := PMap.put (i := i) (x := x) h3 o2 hc
      simp only [e, if_false, PMap, List.map_cons, List.cons.injEq, h1, h2, true_and]
      exact ih
theorem PMap.stored {i d : Int} {ck : Nat} {es : List Ent} {l : List (Int × Int)} (h : PMap es l) (ho : KeysOnce l) : PMap (storedE i (.int .i64 ((cnt i l).getD 0 + d)) ck es) (upd i d l) := by
  unfold storedE upd
  rw [h.look]
  cases hc : cnt i l with
  | none =>
    simp only [Option.map_none, Option.isSome_none, Option.getD_none]
    simp only [PMap] at h ⊢
    simp [h]
  | some c =>
    simp only [Option.map_some, Option.isSome_some, if_true, Option.getD_some]
    have hp := h.put (i := i) (x := c + d) ho (by rw [hc]; rfl)
    have e : (l.map fun p => if p.1 = i then (p.1, c + d) else p) = l.map fun p => if p.1 = i then (p.1, p.2 + d) else p := by
      refine List.map_congr_left (fun p hp => ?_)
      by_cases e : p.1 = i
      · have := cnt_mem ho (i := i) (c := p.2) (by rw [← e]; exact hp)
        rw [hc] at this
        injection this with this
        simp [e, this]
      · simp [e]
    rw [← e]
    exact hp
theorem filter_key {j : Int} {l : List (Int × Int)} (h : ∀ p ∈ l, p.1 ≠ j) : l.filter (fun p => p.1 != j) = l := by
  rw [List.filter_eq_self]
  intro p hp
  simpa using h p hp
theorem PMap.drop {i : Int} : ∀ {es : List Ent} {l : List (Int × Int)}, PMap es l → KeysOnce l → PMap (drop_ i es) (l.filter fun p => p.1 != i)
  | [], [], _, _ => rfl
  | [], _ :: _, h, _ => by simp [PMap] at h
  | _ :: _, [], h, _ => by simp [PMap] at h
  | x :: t, (j, c) :: l, h, ho => by
    simp only [PMap, List.map_cons, List.cons.injEq, Prod.mk.injEq] at h
    obtain ⟨⟨h1, h2⟩, h3⟩ := h
    have ⟨o1, o2⟩ := List.pairwise_cons.1 ho
    have ih := PMap.drop (i := i) (es := t) (l := l) h3 o2
    simp only [drop_, h1]
    by_cases e : j = i
    · subst e
      rw [if_pos rfl, List.filter_cons_of_neg (by simp), filter_key (fun p hp => Ne.symm (o1 p hp))]
      exact h3
    · rw [if_neg e, List.filter_cons_of_pos (by simpa using e)]
      simp only [PMap, List.map_cons, List.cons.injEq, h1, h2, true_and]
      exact ih
/-- The map's entries in their order, and the heap, hold what is pending. -/
structure Rep (pend l : List (Int × Int)) (hs : List Int) : Prop where
  pl : l.Perm pend
  ph : hs.Perm (pend.map Prod.fst)
  hp : IsHeap hs
theorem Rep.nil_ {l : List (Int × Int)} {hs : List Int} (h : Rep [] l hs) : hs = [] ∧ l = [] := ⟨List.Perm.eq_nil h.ph, List.Perm.eq_nil h.pl⟩
theorem Rep.once {u N : Int} {pend l : List (Int × Int)} {hs : List Int} (h : Rep pend l hs) (ha : Asc pend) : KeysOnce l := ha.once.perm h.pl.symm
theorem Rep.head {j c : Int} {t l : List (Int × Int)} {hs : List Int} (h : Rep ((j, c) :: t) l hs) (ha : Asc ((j, c) :: t)) : hs.getD 0 0 = j ∧ hs.length = t.length + 1 ∧ cnt j l = some c := by
  have hl : hs.length = t.length + 1 := by have := h.ph.length_eq; simpa using this
  have hm : j ∈ hs := h.ph.mem_iff.2 (by simp)
  have h0 : hs.getD 0 0 ∈ hs := by
    rw [List.getD_eq_getElem?_getD, List.getElem?_eq_getElem (by omega)]
    exact List.getElem_mem _
  have h1 := isHeap_min h.hp j hm
  have h2 := h.ph.mem_iff.1 h0
  have ⟨a1, _⟩ := List.pairwise_cons.1 ha
  refine ⟨?_, hl, ?_⟩
  · rcases List.mem_map.1 h2 with ⟨p, hp, e⟩
    rcases List.mem_cons.1 hp with e2 | e2
    · rw [← e, e2]
    · have := a1 p e2
      simp only [] at this
      omega
  · exact cnt_mem (h.once (u := 0) (N := 0) ha) (h.pl.mem_iff.2 List.mem_cons_self)
theorem Rep.pop {j c : Int} {t l : List (Int × Int)} {hs ys : List Int} (h : Rep ((j, c) :: t) l hs) (ha : Asc ((j, c) :: t)) (hy : hs.Perm (hs.getD 0 0 :: ys)) (hp : IsHeap ys) : Rep t (l.filter fun p => p.1 != j) ys := by
  have ⟨a1, _⟩ := List.pairwise_cons.1 ha
  refine ⟨?_, ?_, hp⟩
  · have := h.pl.filter (fun p => p.1 != j)
    have e : List.filter (fun p => p.1 != j) ((j, c) :: t) = t := by
      rw [List.filter_cons_of_neg (by simp), filter_key (fun p hp => by have := a1 p hp; simp only [] at this; omega)]
    rw [e] at this
    exact this
  · rw [(h.head ha).1] at hy
    exact (hy.symm.trans h.ph).cons_inv
theorem Rep.push {i d : Int} {pend l : List (Int × Int)} {hs ys : List Int} (h : Rep pend l hs) (ha : Asc pend) (hc : cnt i l = none) (hy : ys.Perm (i :: hs)) (hp : IsHeap ys) : Rep (ins i d pend) (upd i d l) ys := by
  have ho := h.once (u := 0) (N := 0) ha
  have e1 : (upd i d l).Perm (ins i d pend) := (upd_perm ho h.pl).trans (ins_perm ha).symm
  refine ⟨e1, ?_, hp⟩
  have e2 := (e1.map Prod.fst).symm
  rw [upd_keys, hc] at e2
  refine hy.trans ((h.ph.cons i).trans ?_)
  refine (((h.pl.map Prod.fst).symm.cons i).trans ?_).trans e2.symm
  exact List.perm_append_comm (l₁ := [i]) (l₂ := l.map Prod.fst)
theorem Rep.again {i d c : Int} {pend l : List (Int × Int)} {hs : List Int} (h : Rep pend l hs) (ha : Asc pend) (hc : cnt i l = some c) : Rep (ins i d pend) (upd i d l) hs := by
  have ho := h.once (u := 0) (N := 0) ha
  have e1 : (upd i d l).Perm (ins i d pend) := (upd_perm ho h.pl).trans (ins_perm ha).symm
  refine ⟨e1, ?_, h.hp⟩
  have e2 := (e1.map Prod.fst).symm
  rw [upd_keys, hc] at e2
  exact (h.ph.trans (h.pl.map Prod.fst).symm).trans e2.symm

/-! ### what a step writes -/
/-- The blocks of S are rows of the types ts, maps of ms, or neither. -/
def Only (w : World) (S : Nat → Prop) (ts : List Nat) (ms : Nat → Prop) : Prop :=
  ∀ k, S k → (∃ cs t, w.heap[k]? = some (.cells cs t (0, 0)) ∧ t ∈ ts) ∨ (∃ m c, w.heap[k]? = some (.map m c) ∧ ms k) ∨ (∃ m s n c, w.heap[k]? = some (.mapIter m s n c))
theorem Only.cells {w : World} {S : Nat → Prop} {ts : List Nat} {ms : Nat → Prop} (h : Only w S ts ms) {k t : Nat} {cs : Array Value} (hb : w.heap[k]? = some (.cells cs t (0, 0))) (ht : t ∉ ts) : ¬ S k := by
  intro hk
  rcases h k hk with ⟨cs2, t2, h2, h3⟩ | ⟨m, c, h2, _⟩ | ⟨m, s, n, c, h2⟩
  · rw [hb] at h2; injection h2 with h2; injection h2 with _ h2; subst h2; exact ht h3
  · rw [hb] at h2; cases h2
  · rw [hb] at h2; cases h2
theorem Only.map {w : World} {S : Nat → Prop} {ts : List Nat} {ms : Nat → Prop} (h : Only w S ts ms) {k : Nat} {m : Array MapEntry} {c : Nat} (hb : w.heap[k]? = some (.map m c)) (ht : ¬ ms k) : ¬ S k := by
  intro hk
  rcases h k hk with ⟨cs2, t2, h2, h3⟩ | ⟨m, c, h2, h3⟩ | ⟨m, s, n, c, h2⟩
  · rw [hb] at h2; cases h2
  · exact ht h3
  · rw [hb] at h2; cases h2
theorem Only.none (w : World) (ts : List Nat) (ms : Nat → Prop) : Only w (fun _ => False) ts ms := fun _ h => h.elim
theorem only_heap {w : World} {ib : Nat} {v : Value} {xs : List Int} (h : HB w ib v xs) : Only w (fun k => k = ib ∨ some k = v.ownBlock) [66, 53] (fun _ => False) := by
  intro k hk
  rcases hk with hk | hk
  · subst hk; exact .inl ⟨_, _, h.hb, by simp⟩
  · obtain ⟨cells, hc⟩ := Kd.R_typed h.hr k hk.symm
    exact .inl ⟨_, _, hc, by simp⟩
theorem only_note {w : World} {T : Nat → Prop} {qb : Nat} {ws : Wl} {D : Int → Bool} {es : List Ent} {ck : Nat} (h : WR w T qb ws D es ck) : Only w (SW qb ws) [62] (fun k => k = qb) := by
  intro k hk
  rcases hk with hk | ⟨p, hp, rfl⟩
  · subst hk; exact .inr (.inl ⟨_, _, h.en.blk, rfl⟩)
  · exact .inl ⟨_, _, h.fl p hp, by simp⟩
theorem HBkeep {w w1 : World} {ib : Nat} {v : Value} {xs : List Int} {S : Nat → Prop} {ts : List Nat} {ms : Nat → Prop} (h : HB w ib v xs) (hk : Kp w w1 S) (ho : Only w S ts ms) (h1 : 66 ∉ ts) (h2 : 53 ∉ ts) : HB w1 ib v xs :=
  ⟨hk.blk h.hb (ho.cells h.hb h1), Kd.R_mono (Kd.R_kept (Kd.R_mono (Kd.R_bound h.hr) (ok' := fun k => ¬ S k) (fun k hk => by
    obtain ⟨_, _, _, q, hq, cells, hc⟩ := hk
    have : q ∈ [53] := hq
    simp at this
    subst this
    exact ho.cells hc h2)) hk.kept (fun _ h => h)) (fun _ _ => trivial)⟩
theorem WRkeep {w w1 : World} {T : Nat → Prop} {qb : Nat} {ws : Wl} {D : Int → Bool} {es : List Ent} {ck : Nat} {S : Nat → Prop} {ts : List Nat} {ms : Nat → Prop} (h : WR w T qb ws D es ck) (hk : Kp w w1 S) (ho : Only w S ts ms) (h1 : 57 ∉ ts) (h2 : 62 ∉ ts) (h3 : ¬ ms qb) : WR w1 T qb ws D es ck :=
  ⟨h.en.move (hk.blk h.en.blk (ho.map h.en.blk h3)) (fun x hx => Kd.R_mono (Kd.R_kept (Kd.R_mono (Kd.R_bound (h.en.row x hx)) (ok' := fun k => T k ∧ ¬ S k) (fun k hk => by
    obtain ⟨h0, _, _, q, hq, cells, hc⟩ := hk
    have : q ∈ [57] := hq
    simp at this
    subst this
    exact ⟨h0, ho.cells hc h1⟩)) hk.kept (fun _ h => h.2)) (fun _ h => h.1)),
   h.fl.kp hk (fun p hp => ho.cells (h.fl p hp) h2), h.nd, h.tq, h.tw⟩
theorem WRcongr {w : World} {T : Nat → Prop} {qb : Nat} {ws : Wl} {D D2 : Int → Bool} {es : List Ent} {ck : Nat} (h : WR w T qb ws D es ck) (hd : ∀ p ∈ ws, D p.1 = D2 p.1) : WR w T qb ws D2 es ck :=
  ⟨⟨h.en.blk, h.en.once, h.en.born, h.en.clock, h.en.row, h.en.some_, fun x hx => by
      obtain ⟨b, hb⟩ := List.exists_mem_of_ne_nil _ (h.en.some_ x hx)
      rw [← hd _ (mem_content.1 hb)]; exact h.en.still x hx, h.en.apart, fun p hp hf => h.en.cover p hp (by rw [hd p hp]; exact hf)⟩,
   h.fl.congr (fun p hp => hd p hp), h.nd, h.tq, h.tw⟩
/-- No one waits for k any more. -/
theorem WRskip {w : World} {T : Nat → Prop} {qb : Nat} {ws : Wl} {D : Int → Bool} {es : List Ent} {ck : Nat} (h : WR w T qb ws D es ck) {k : Int} (hn : lookE k es = none) : WR w T qb ws (orD D k) es ck := by
  refine WRcongr h (fun p hp => ?_)
  by_cases e : p.1 = k
  · cases hd : D p.1 with
    | true => simp [orD, hd]
    | false =>
      obtain ⟨x, hx, e2⟩ := h.en.cover p hp hd
      exact absurd (e2.trans e) (Fr.look_none.1 hn x hx)
  · simp [orD, e]
/-- All that process works on, behind its boxes. -/
structure PX (w : World) (T : Nat → Prop) (pbx ibx wbx qbx wb pb qb : Nat) (v : Value) (hs : List Int) (l : List (Int × Int)) (till last : Int) (nm hv0 : Value) (ws : Wl) (D : Int → Bool) (es : List Ent) (ck : Nat) : Prop where
  b1 : w.heap[pbx]? = some (.cells #[.map (some pb)] 64 (0, 0))
  b2 : w.heap[wbx]? = some (.cells #[.pointer (some ⟨wb, 0, none⟩)] 49 (0, 0))
  b3 : w.heap[qbx]? = some (.cells #[.map (some qb)] 65 (0, 0))
  hb : HB w ibx v hs
  hw : w.heap[wb]? = some (.cells #[.int .u64 till, .int .u64 last, nm, hv0, .map (some pb), .map (some qb)] 68 (0, 0))
  pm : ∃ pes pck, w.heap[pb]? = some (.map (rawM .u64 pes) pck) ∧ PMap pes l
  wr : WR w T qb ws D es ck
  ne : pb ≠ qb
  tv : ∀ k, v.ownBlock = some k → T k
  tf : ∀ k, w.heap.size ≤ k → T k
section
variable {w w1 : World} {T : Nat → Prop} {pbx ibx wbx qbx wb pb qb : Nat} {v : Value} {hs : List Int} {l : List (Int × Int)} {till last : Int} {nm hv0 : Value} {ws : Wl} {D : Int → Bool} {es : List Ent} {ck : Nat} {S : Nat → Prop} {ts : List Nat} {ms : Nat → Prop}
theorem PX.keep (h : PX w T pbx ibx wbx qbx wb pb qb v hs l till last nm hv0 ws D es ck) (hk : Kp w w1 S) (ho : Only w S ts ms) (hp : ¬ ms pb) (hq : ¬ ms qb) (ht : ∀ t ∈ [64, 49, 65, 66, 53, 68, 57, 62], t ∉ ts) : PX w1 T pbx ibx wbx qbx wb pb qb v hs l till last nm hv0 ws D es ck := by
  obtain ⟨pes, pck, h1, h2⟩ := h.pm
  exact ⟨hk.blk h.b1 (ho.cells h.b1 (ht _ (by simp))), hk.blk h.b2 (ho.cells h.b2 (ht _ (by simp))), hk.blk h.b3 (ho.cells h.b3 (ht _ (by simp))), HBkeep h.hb hk ho (ht _ (by simp)) (ht _ (by simp)),
    hk.blk h.hw (ho.cells h.hw (ht _ (by simp))), ⟨pes, pck, hk.blk h1 (ho.map h1 hp), h2⟩, WRkeep h.wr hk ho (ht _ (by simp)) (ht _ (by simp)) hq, h.ne, h.tv, fun k hk2 => h.tf k (Nat.le_trans hk.size hk2)⟩
/-- Behind a call on the heap. -/
theorem PX.heap {v2 : Value} {hs2 : List Int} (h : PX w T pbx ibx wbx qbx wb pb qb v hs l till last nm hv0 ws D es ck) (hk : Kp w w1 (fun k => k = ibx ∨ some k = v.ownBlock)) (hB : HB w1 ibx v2 hs2) (hR : Rowed w v v2) : PX w1 T pbx ibx wbx qbx wb pb qb v2 hs2 l till last nm hv0 ws D es ck := by
  obtain ⟨pes, pck, h1, h2⟩ := h.pm
  have ho := only_heap h.hb
  exact ⟨hk.blk h.b1 (ho.cells h.b1 (by decide)), hk.blk h.b2 (ho.cells h.b2 (by decide)), hk.blk h.b3 (ho.cells h.b3 (by decide)), hB,
    hk.blk h.hw (ho.cells h.hw (by decide)), ⟨pes, pck, hk.blk h1 (ho.map h1 (by simp)), h2⟩, WRkeep h.wr hk ho (by decide) (by decide) (by simp), h.ne, fun k hk2 => by
      rcases hR with hR | ⟨b, hb, hle⟩
      · exact h.tv k (hR ▸ hk2)
      · rw [hb] at hk2; injection hk2 with hk2; exact h.tf k (by omega), fun k hk2 => h.tf k (Nat.le_trans hk.size hk2)⟩
/-- Behind a call that tells who waits. -/
theorem PX.note {D2 : Int → Bool} {es2 : List Ent} {ck2 : Nat} (h : PX w T pbx ibx wbx qbx wb pb qb v hs l till last nm hv0 ws D es ck) (hk : Kp w w1 (SW qb ws)) (hW : WR w1 T qb ws D2 es2 ck2) : PX w1 T pbx ibx wbx qbx wb pb qb v hs l till last nm hv0 ws D2 es2 ck2 := by
  obtain ⟨pes, pck, h1, h2⟩ := h.pm
  have ho := only_note h.wr
  exact ⟨hk.blk h.b1 (ho.cells h.b1 (by decide)), hk.blk h.b2 (ho.cells h.b2 (by decide)), hk.blk h.b3 (ho.cells h.b3 (by decide)), HBkeep h.hb hk ho (by decide) (by decide),
    hk.blk h.hw (ho.cells h.hw (by decide)), ⟨pes, pck, hk.blk h1 (ho.map h1 h.ne), h2⟩, hW, h.ne, h.tv, fun k hk2 => h.tf k (Nat.le_trans hk.size hk2)⟩
/-- The pending indices stored anew. -/
theorem PX.pend {pes2 : List Ent} {pck2 : Nat} {l2 : List (Int × Int)} (h : PX w T pbx ibx wbx qbx wb pb qb v hs l till last nm hv0 ws D es ck) (h2 : PMap pes2 l2) : PX (setO w pb (.map (rawM .u64 pes2) pck2)) T pbx ibx wbx qbx wb pb qb v hs l2 till last nm hv0 ws D es ck := by
  obtain ⟨pes, pck, h1, _⟩ := h.pm
  have hk : Kp w (setO w pb (.map (rawM .u64 pes2) pck2)) (fun k => k = pb) := (Kp.refl w (fun k => k = pb)).setO (r := pb) (.inl rfl) _
  have ho : Only w (fun k => k = pb) [] (fun k => k = pb) := fun k hk => by subst hk; exact .inr (.inl ⟨_, _, h1, rfl⟩)
  exact ⟨hk.blk h.b1 (ho.cells h.b1 (by decide)), hk.blk h.b2 (ho.cells h.b2 (by decide)), hk.blk h.b3 (ho.cells h.b3 (by decide)), HBkeep h.hb hk ho (by decide) (by decide),
    hk.blk h.hw (ho.cells h.hw (by decide)), ⟨pes2, pck2, setO_same h1, h2⟩, WRkeep h.wr hk ho (by decide) (by decide) (Ne.symm h.ne), h.ne, h.tv, fun k hk2 => h.tf k (Nat.le_trans hk.size hk2)⟩
/-- The mark stored anew. -/
theorem PX.setTill (h : PX w T pbx ibx wbx qbx wb pb qb v hs l till last nm hv0 ws D es ck) (u : Int) : PX (w.setCell ⟨wb, 0, none⟩ (.int .u64 u)) T pbx ibx wbx qbx wb pb qb v hs l u last nm hv0 ws D es ck := by
  obtain ⟨pes, pck, h1, h2⟩ := h.pm
  have hk : Kp w (w.setCell ⟨wb, 0, none⟩ (.int .u64 u)) (fun k => k = wb) := (Kp.refl w (fun k => k = wb)).setCell (p := ⟨wb, 0, none⟩) (.inl rfl) _
  have ho : Only w (fun k => k = wb) [68] (fun _ => False) := fun k hk => by subst hk; exact .inl ⟨_, _, h.hw, by simp⟩
  exact ⟨hk.blk h.b1 (ho.cells h.b1 (by decide)), hk.blk h.b2 (ho.cells h.b2 (by decide)), hk.blk h.b3 (ho.cells h.b3 (by decide)), HBkeep h.hb hk ho (by decide) (by decide),
    blk_put h.hw 0 _ rfl, ⟨pes, pck, hk.blk h1 (ho.map h1 (by simp)), h2⟩, WRkeep h.wr hk ho (by decide) (by decide) (by simp), h.ne, h.tv, fun k hk2 => h.tf k (Nat.le_trans hk.size hk2)⟩
end
end Go.Proofs.Ytimakagmhikhfaa.Px
