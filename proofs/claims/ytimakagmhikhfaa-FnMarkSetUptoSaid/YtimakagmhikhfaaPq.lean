/- One more waits: the map of those who wait, and all that process works on, behind it. -/
import Derived.Test.YtimakagmhikhfaaPo
namespace Go.Proofs.Ytimakagmhikhfaa.Pq
open Go.RowKit Go.Proofs.YtimakagmhikhfaaW.PrintWords Go.Proofs.YtimakagmhikhfaaW.PrintLast Go.Proofs.YtimakagmhikhfaaW.PrintMore Go.Proofs.Ytimakagmhikhfaa.Mk Go.Proofs.Ytimakagmhikhfaa.Fr Go.Proofs.Ytimakagmhikhfaa.Hp Go.Proofs.Ytimakagmhikhfaa.Wt Go.Proofs.Ytimakagmhikhfaa.Px Go.Proofs.Ytimakagmhikhfaa.Po
set_option linter.unusedVariables false
set_option linter.unusedSimpArgs false
theorem mem_put {i : Int} {v : Value} {y : Ent} : ∀ {es : List Ent}, es.Pairwise (fun a b => a.1 ≠ b.1) → y ∈ putE i v es → (y.1 = i ∧ y.2.1 = v) ∨ (y ∈ es ∧ y.1 ≠ i)
  | [], _, h => by simp [putE] at h
  | x :: t, ho, h => by
    have ⟨o1, o2⟩ := List.pairwise_cons.1 ho
    simp only [putE] at h
    split at h
    · rename_i e
      rcases List.mem_cons.1 h with h | h
      · subst h; exact .inl ⟨e, rfl⟩
      · exact .inr ⟨List.mem_cons_of_mem _ h, fun e2 => o1 y h (by rw [e, e2])⟩
    · rename_i e
      rcases List.mem_cons.1 h with h | h
      · subst h; exact .inr ⟨List.mem_cons_self, e⟩
      · rcases mem_put o2 h with h | ⟨h, h2⟩
        · exact .inl h
        · exact .inr ⟨List.mem_cons_of_mem _ h, h2⟩
theorem put_stamps (i : Int) (v : Value) : ∀ es : List Ent, (putE i v es).map (fun x => (x.1, x.2.2)) = es.map (fun x => (x.1, x.2.2))
  | [] => rfl
  | x :: t => by
    simp only [putE]
    split
    · rfl
    · simp [put_stamps i v t]
theorem put_has {i : Int} {v : Value} {x : Ent} : ∀ {es : List Ent}, x ∈ es → ∃ y ∈ putE i v es, y.1 = x.1
  | z :: t, h => by
    simp only [putE]
    rcases List.mem_cons.1 h with h | h
    · subst h
      split
      · exact ⟨_, List.mem_cons_self, rfl⟩
      · exact ⟨_, List.mem_cons_self, rfl⟩
    · split
      · exact ⟨x, List.mem_cons_of_mem _ h, rfl⟩
      · obtain ⟨y, h1, h2⟩ := put_has (i := i) (v := v) h
        exact ⟨y, List.mem_cons_of_mem _ h1, h2⟩
theorem put_apart {i : Int} {v : Value} : ∀ {es : List Ent}, es.Pairwise (fun a b => a.1 ≠ b.1) → es.Pairwise (fun a b => NeRow a.2.1 b.2.1) → (∀ x ∈ es, x.1 ≠ i → NeRow x.2.1 v) → (putE i v es).Pairwise (fun a b => NeRow a.2.1 b.2.1)
  | [], _, _, _ => by simp [putE]
  | x :: t, ho, ha, hv => by
    have ⟨o1, o2⟩ := List.pairwise_cons.1 ho
    have ⟨a1, a2⟩ := List.pairwise_cons.1 ha
    simp only [putE]
    split
    · rename_i e
      exact List.pairwise_cons.2 ⟨fun y hy => ne_symm (hv y (List.mem_cons_of_mem _ hy) (fun e2 => o1 y hy (by rw [e, e2]))), a2⟩
    · rename_i e
      refine List.pairwise_cons.2 ⟨fun y hy => ?_, put_apart o2 a2 (fun z hz => hv z (List.mem_cons_of_mem _ hz))⟩
      rcases mem_put o2 hy with ⟨_, h⟩ | ⟨h, _⟩
      · show NeRow x.2.1 y.2.1
        rw [h]; exact hv x List.mem_cons_self e
      · exact a1 y h
theorem content_same {ws : Wl} {i : Int} {b : Nat} : content (ws ++ [(i, b)]) i = content ws i ++ [b] := by simp [content, List.filter_append]
theorem content_other {ws : Wl} {i k : Int} {b : Nat} (h : k ≠ i) : content (ws ++ [(i, b)]) k = content ws k := by
  simp [content, List.filter_append, List.filter_cons, Ne.symm h]
theorem row_setO {w : World} {T : Nat → Prop} {v : Value} {xs : List Nat} {qb ck : Nat} {m : Array MapEntry} (h : ptrK.R 57 w 0 T v xs) (hb : w.heap[qb]? = some (.map m ck)) (o : Obj) : ptrK.R 57 (setO w qb o) 0 T v xs := by
  refine Kd.R_kept (S := fun i => i = qb) (Kd.R_mono (Kd.R_bound h) (ok' := fun k => T k ∧ k ≠ qb) ?_) ⟨by rw [setO_size]; exact Nat.le_refl _, fun i _ hn => setO_far w _ hn⟩ (fun _ hk => hk.2) |> fun r => Kd.R_mono r (fun _ hk => hk.1)
  rintro i ⟨h1, _, _, q, _, cells, hc⟩
  refine ⟨h1, ?_⟩
  rintro rfl
  rw [hb] at hc
  cases hc
theorem Ents.put {w w1 : World} {T T2 : Nat → Prop} {qb : Nat} {ws : Wl} {D : Int → Bool} {es : List Ent} {ck : Nat} {i : Int} {b : Nat} {v : Value} (h : Ents w T qb ws D es ck) (hb1 : w1.heap[qb]? = some (.map (rawM .u64 es) ck)) (hD : D i = false)
    (hv : ptrK.R 57 w1 0 T2 v (content ws i ++ [b])) (ho : ∀ x ∈ es, x.1 ≠ i → ptrK.R 57 w1 0 T2 x.2.1 (content ws x.1) ∧ NeRow x.2.1 v) :
    Ents (setO w1 qb (.map (rawM .u64 (storedE i v ck es)) (clockE i ck es))) T2 qb (ws ++ [(i, b)]) D (storedE i v ck es) (clockE i ck es) := by
  have hm : ∀ y ∈ storedE i v ck es, (y.1 = i ∧ y.2.1 = v) ∨ (y ∈ es ∧ y.1 ≠ i) := by
    intro y hy
    unfold storedE at hy
    split at hy
    · exact mem_put h.once hy
    · rename_i hn
      have hn : lookE i es = none := by simpa using hn
      rcases List.mem_append.1 hy with hy | hy
      · exact .inr ⟨hy, Fr.look_none.1 hn y hy⟩
      · rw [List.mem_singleton.1 hy]; exact .inl ⟨rfl, rfl⟩
  have hs1 : (storedE i v ck es).Pairwise (fun a b => a.1 ≠ b.1) := by
    unfold storedE
    split
    · have := put_stamps i v es
      have h1 := h.once
      rw [← List.pairwise_map (f := fun x : Ent => (x.1, x.2.2)) (R := fun a b => a.1 ≠ b.1)] at h1 ⊢
      rw [this]; exact h1
    · rename_i hn
      have hn : lookE i es = none := by simpa using hn
      exact List.pairwise_append.2 ⟨h.once, by simp, fun x hx y hy => by rw [List.mem_singleton.1 hy]; exact Fr.look_none.1 hn x hx⟩
  have hs2 : (storedE i v ck es).Pairwise (fun a b => a.2.2 < b.2.2) := by
    unfold storedE
    split
    · have := put_stamps i v es
      have h1 := h.born
      rw [← List.pairwise_map (f := fun x : Ent => (x.1, x.2.2)) (R := fun a b => a.2 < b.2)] at h1 ⊢
      rw [this]; exact h1
    · exact List.pairwise_append.2 ⟨h.born, by simp, fun x hx y hy => by rw [List.mem_singleton.1 hy]; exact h.clock x hx⟩
  have hs3 : ∀ x ∈ storedE i v ck es, x.2.2 < clockE i ck es := by
    intro x hx
    unfold storedE at hx
    unfold clockE
    split at hx
    · rename_i hp
      rw [if_pos hp]
      have h1 : (x.1, x.2.2) ∈ (putE i v es).map (fun x => (x.1, x.2.2)) := List.mem_map_of_mem (f := fun x : Ent => (x.1, x.2.2)) hx
      rw [put_stamps] at h1
      obtain ⟨z, hz, e⟩ := List.mem_map.1 h1
      have := h.clock z hz
      injection e with _ e
      omega
    · rename_i hp
      rw [if_neg hp]
      rcases List.mem_append.1 hx with hx | hx
      · have := h.clock x hx; omega
      · rw [List.mem_singleton.1 hx]; exact Nat.lt_succ_self _
  have hs4 : (storedE i v ck es).Pairwise (fun a b => NeRow a.2.1 b.2.1) := by
    unfold storedE
    split
    · exact put_apart h.once h.apart (fun x hx hn => (ho x hx hn).2)
    · rename_i hn
      have hn : lookE i es = none := by simpa using hn
      exact List.pairwise_append.2 ⟨h.apart, by simp, fun x hx y hy => by rw [List.mem_singleton.1 hy]; exact (ho x hx (Fr.look_none.1 hn x hx)).2⟩
  refine ⟨setO_same hb1, hs1, hs2, hs3, fun x hx => row_setO ?_ hb1 _, fun x hx => ?_, fun x hx => ?_, hs4, fun p hp hd => ?_⟩
  · rcases hm x hx with ⟨e1, e2⟩ | ⟨e1, e2⟩
    · rw [e1, e2, content_same]; exact hv
    · rw [content_other e2]; exact (ho x e1 e2).1
  · rcases hm x hx with ⟨e1, e2⟩ | ⟨e1, e2⟩
    · rw [e1, content_same]; simp
    · rw [content_other e2]; exact h.some_ x e1
  · rcases hm x hx with ⟨e1, e2⟩ | ⟨e1, e2⟩
    · rw [e1]; exact hD
    · exact h.still x e1
  · have hin : ∃ y ∈ storedE i v ck es, y.1 = i := by
      unfold storedE
      split
      · rename_i hp
        obtain ⟨u, hu⟩ := Option.isSome_iff_exists.1 hp
        obtain ⟨x, hx, e, _⟩ := look_mem hu
        obtain ⟨y, hy, e2⟩ := put_has (i := i) (v := v) hx
        exact ⟨y, hy, e2.trans e⟩
      · exact ⟨_, List.mem_append_right _ (List.mem_singleton.2 rfl), rfl⟩
    rcases List.mem_append.1 hp with hp | hp
    · obtain ⟨x, hx, e⟩ := h.cover p hp hd
      by_cases e2 : x.1 = i
      · obtain ⟨y, hy, e3⟩ := hin
        exact ⟨y, hy, by rw [e3, ← e2, e]⟩
      · unfold storedE
        split
        · obtain ⟨y, hy, e3⟩ := put_has (i := i) (v := v) hx
          exact ⟨y, hy, e3.trans e⟩
        · exact ⟨x, List.mem_append_left _ hx, e⟩
    · rw [List.mem_singleton.1 hp]; exact hin
/-- Who has no entry waits not. -/
theorem Ents.empty {w : World} {T : Nat → Prop} {qb : Nat} {ws : Wl} {D : Int → Bool} {es : List Ent} {ck : Nat} {i : Int} (h : Ents w T qb ws D es ck) (hD : D i = false) (hn : lookE i es = none) : content ws i = [] := by
  refine List.eq_nil_iff_forall_not_mem.2 (fun b hb => ?_)
  obtain ⟨x, hx, e⟩ := h.cover _ (mem_content.1 hb) hD
  exact Fr.look_none.1 hn x hx e
theorem row_one (w : World) (T : Nat → Prop) (b : Nat) (hT : T w.heap.size) : ptrK.R 57 (w.alloc (.cells #[ptr b] 57)) 0 T (.slice (some ⟨w.heap.size, 0, none⟩) 1 1) [b] := by
  refine Kd.R_of_own ?_ (fun k hk => ?_)
  · have h2 := World.ownsRow_lit (base := 0) (e := 57) (size := 1) w #[ptr b] 1 (Nat.zero_le _) (by simp [maxLen]) (by simp)
    simpa [encs] using h2
  · have : w.heap.size = k := by simpa [Value.ownBlock] using hk
    rw [← this]; exact hT
theorem own_only {w : World} {T : Nat → Prop} {v : Value} {xs : List Nat} (h : ptrK.R 57 w 0 T v xs) : ptrK.R 57 w 0 (fun k => T k ∧ v.ownBlock = some k) v xs :=
  ⟨fun k hk => ⟨h.1 k hk, hk⟩, h.2.imp_ (fun _ _ hp => hp)⟩
theorem PX.put {w w1 : World} {T : Nat → Prop} {pbx ibx wbx qbx wb pb qb : Nat} {v vn : Value} {hs : List Int} {l : List (Int × Int)} {till last : Int} {nm hv0 : Value} {ws : Wl} {D : Int → Bool} {es : List Ent} {ck : Nat} {i : Int} {b : Nat} {R0 : Option Nat}
    (h : PX w T pbx ibx wbx qbx wb pb qb v hs l till last nm hv0 ws D es ck) (hk : Kp w w1 (fun k => some k = R0)) (hR : ∀ k, R0 = some k → ∃ x ∈ es, x.1 = i ∧ x.2.1.ownBlock = some k) (hD : D i = false)
    (hv : ptrK.R 57 w1 0 (fun k => T k ∨ k = b) vn (content ws i ++ [b])) (hat : vn.ownBlock = R0 ∨ ∃ r, vn.ownBlock = some r ∧ w.heap.size ≤ r) (hfb : w.heap[b]? = some (.cells #[.bool false] 62 (0, 0))) (hn : ∀ p ∈ ws, p.2 ≠ b) :
    PX (setO w1 qb (.map (rawM .u64 (storedE i vn ck es)) (clockE i ck es))) (fun k => T k ∨ k = b) pbx ibx wbx qbx wb pb qb v hs l till last nm hv0 (ws ++ [(i, b)]) D (storedE i vn ck es) (clockE i ck es)
      ∧ Kp w (setO w1 qb (.map (rawM .u64 (storedE i vn ck es)) (clockE i ck es))) T := by
  obtain ⟨pes, pck, h1, h2⟩ := h.pm
  have h57 : ∀ k, R0 = some k → (∃ cells, w.heap[k]? = some (.cells cells 57 (0, 0))) ∧ T k := by
    intro k hk
    obtain ⟨x, hx, _, e⟩ := hR k hk
    have hr := h.wr.en.row x hx
    exact ⟨Kd.R_typed hr k e, hr.1 k e⟩
  have ho1 : Only w (fun k => some k = R0) [57] (fun _ => False) := fun k hk => by
    obtain ⟨⟨cells, hc⟩, _⟩ := h57 k hk.symm
    exact .inl ⟨cells, 57, hc, by simp⟩
  have hq1 := hk.blk h.wr.en.blk (ho1.map h.wr.en.blk (fun h => h))
  have hk2 : Kp w (setO w1 qb (.map (rawM .u64 (storedE i vn ck es)) (clockE i ck es))) (fun k => k = qb ∨ some k = R0) := (hk.mono (fun _ h => .inr h)).setO (.inl (.inl rfl)) _
  have ho : Only w (fun k => k = qb ∨ some k = R0) [57] (fun k => k = qb) := fun k hk => by
    rcases hk with hk | hk
    · subst hk; exact .inr (.inl ⟨_, _, h.wr.en.blk, rfl⟩)
    · obtain ⟨⟨cells, hc⟩, _⟩ := h57 k hk.symm
      exact .inl ⟨cells, 57, hc, by simp⟩
  refine ⟨⟨hk2.blk h.b1 (ho.cells h.b1 (by decide)), hk2.blk h.b2 (ho.cells h.b2 (by decide)), hk2.blk h.b3 (ho.cells h.b3 (by decide)), HBkeep h.hb hk2 ho (by decide) (by decide), hk2.blk h.hw (ho.cells h.hw (by decide)),
    ⟨pes, pck, hk2.blk h1 (ho.map h1 h.ne), h2⟩, ?_, h.ne, fun k hk => .inl (h.tv k hk), fun k hk => .inl (h.tf k (Nat.le_trans hk2.size hk))⟩, hk2.mono (fun k hk => ?_)⟩
  · refine ⟨Ents.put h.wr.en hq1 hD hv (fun x hx hne => ?_), ?_, ?_, .inl h.wr.tq, fun p hp => ?_⟩
    · have hr := h.wr.en.row x hx
      have hnr : ∀ k, R0 = some k → x.2.1.ownBlock ≠ some k := by
        intro k hk
        obtain ⟨y, hy, ey, e⟩ := hR k hk
        have hxy : NeRow x.2.1 y.2.1 := by
          rcases List.pairwise_iff_getElem.1 h.wr.en.apart with hap
          obtain ⟨a, ha, rfl⟩ := List.getElem_of_mem hx
          obtain ⟨c, hc, rfl⟩ := List.getElem_of_mem hy
          rcases Nat.lt_trichotomy a c with hlt | heq | hgt
          · exact hap a c ha hc hlt
          · subst heq; exact absurd ey hne
          · exact ne_symm (hap c a hc ha hgt)
        intro hx2
        exact hxy k hx2 e
      refine ⟨Kd.R_mono (Kd.R_kept (Kd.R_mono (own_only hr) (ok' := fun k => T k ∧ some k ≠ R0) ?_) hk.kept (fun _ h => h.2)) (fun _ h => .inl h.1), ?_⟩
      · rintro k ⟨h0, h3⟩
        exact ⟨h0, fun e => hnr k e.symm h3⟩
      · intro k hk3 hk4
        rcases hat with hat | ⟨r, hr2, hle⟩
        · exact hnr k (hat ▸ hk4) hk3
        · rw [hr2] at hk4
          injection hk4 with hk4
          obtain ⟨cells, hc⟩ := Kd.R_typed hr k hk3
          have := blk_lt hc
          omega
    · intro p hp
      rcases List.mem_append.1 hp with hp | hp
      · exact hk2.blk (h.wr.fl p hp) (ho.cells (h.wr.fl p hp) (by decide))
      · rw [List.mem_singleton.1 hp]
        show _ = some (Obj.cells #[.bool (D i)] 62 (0, 0))
        rw [hD]
        exact hk2.blk hfb (ho.cells hfb (by decide))
    · exact List.pairwise_append.2 ⟨h.wr.nd, by simp, fun x hx y hy => by rw [List.mem_singleton.1 hy]; exact hn x hx⟩
    · rcases List.mem_append.1 hp with hp | hp
      · exact .inl (h.wr.tw p hp)
      · rw [List.mem_singleton.1 hp]; exact .inr rfl
  · rcases hk with hk | hk
    · rw [hk]; exact h.wr.tq
    · exact (h57 k hk.symm).2
end Go.Proofs.Ytimakagmhikhfaa.Pq
