/- Who waits for a mark: the waiters' blocks, and the map from indices to those who wait for them. -/
import Derived.Test.YtimakagmhikhfaaHr
namespace Go.Proofs.Ytimakagmhikhfaa.Wt
open Go.RowKit Go.Proofs.YtimakagmhikhfaaW.PrintWords Go.Proofs.YtimakagmhikhfaaW.PrintLast Go.Proofs.YtimakagmhikhfaaW.PrintMore Go.Proofs.Ytimakagmhikhfaa.Mk Go.Proofs.Ytimakagmhikhfaa.Fr Go.Proofs.Ytimakagmhikhfaa.Hp
set_option linter.unusedVariables false
set_option linter.unusedSimpArgs false
/-- A pointer to a block's first cell. -/
def ptr (b : Nat) : Value := .pointer (some ⟨b, 0, none⟩)
def ptrK : Kd Nat := Kd.scalar ptr (fun _ => rfl)
theorem at_ptr {w : World} {A : Option Addr} {n : Nat} {xs : List Nat} (h : ptrK.C w A n xs) (i : Nat) (h1 : i < n) : ∃ ad, A = some ad ∧ w.cell? (ad.add i) = some (ptr (xs.getD i 0)) := by
  obtain ⟨ad, e, hc⟩ := (Kd.reads_of_C (d := 0) h).at_ i (by omega) (by omega)
  exact ⟨ad, e, by simpa [rdOf] using hc⟩
/-- Who waits: for each the index, and the block. -/
abbrev Wl := List (Int × Nat)
def content (ws : Wl) (k : Int) : List Nat := (ws.filter fun p => p.1 == k).map Prod.snd
theorem mem_content {ws : Wl} {k : Int} {b : Nat} : b ∈ content ws k ↔ (k, b) ∈ ws := by
  simp only [content, List.mem_map, List.mem_filter]
  constructor
  · rintro ⟨p, ⟨h1, h2⟩, rfl⟩
    have : p.1 = k := by simpa using h2
    rw [← this]; exact h1
  · intro h; exact ⟨(k, b), ⟨h, by simp⟩, rfl⟩
def Flags (w : World) (F : Int × Nat → Bool) (ws : Wl) : Prop := ∀ p ∈ ws, w.heap[p.2]? = some (.cells #[.bool (F p)] 62 (0, 0))
theorem Flags.set {w : World} {F : Int × Nat → Bool} {ws : Wl} (h : Flags w F ws) (b : Nat) : Flags (w.setCell ⟨b, 0, none⟩ (.bool true)) (fun p => F p || p.2 == b) ws := by
  intro p hp
  show (w.setCell ⟨b, 0, none⟩ (.bool true)).heap[p.2]? = some (.cells #[.bool (F p || p.2 == b)] 62 (0, 0))
  by_cases e : p.2 = b
  · have := blk_put (h p hp) 0 (.bool true) rfl
    rw [show (F p || p.2 == b) = true by simp [e]]
    rw [e] at this ⊢
    exact this
  · have := blk_far (h p hp) (p := ⟨b, 0, none⟩) e (.bool true)
    rw [show (F p || p.2 == b) = F p by simp [e]]
    exact this
theorem Flags.congr {w : World} {F G : Int × Nat → Bool} {ws : Wl} (h : Flags w F ws) (e : ∀ p ∈ ws, F p = G p) : Flags w G ws := fun p hp => by rw [← e p hp]; exact h p hp
theorem Flags.kp {w w1 : World} {F : Int × Nat → Bool} {ws : Wl} {S : Nat → Prop} (h : Flags w F ws) (hk : Kp w w1 S) (hn : ∀ p ∈ ws, ¬ S p.2) : Flags w1 F ws := fun p hp => hk.blk (h p hp) (hn p hp)
/-- The map's entries: each leads to a row of those who wait for its key, no two to one row. -/
structure Ents (w : World) (T : Nat → Prop) (qb : Nat) (ws : Wl) (D : Int → Bool) (es : List Ent) (ck : Nat) : Prop where
  blk : w.heap[qb]? = some (.map (rawM .u64 es) ck)
  once : es.Pairwise (fun a b => a.1 ≠ b.1)
  born : es.Pairwise (fun a b => a.2.2 < b.2.2)
  clock : ∀ x ∈ es, x.2.2 < ck
  row : ∀ x ∈ es, ptrK.R 57 w 0 T x.2.1 (content ws x.1)
  some_ : ∀ x ∈ es, content ws x.1 ≠ []
  still : ∀ x ∈ es, D x.1 = false
  apart : es.Pairwise (fun a b => NeRow a.2.1 b.2.1)
  cover : ∀ p ∈ ws, D p.1 = false → ∃ x ∈ es, x.1 = p.1
/-- The map behind another world that has its blocks. -/
theorem Ents.move {w w1 : World} {T : Nat → Prop} {qb : Nat} {ws : Wl} {D : Int → Bool} {es : List Ent} {ck : Nat} (h : Ents w T qb ws D es ck) (hb : w1.heap[qb]? = some (.map (rawM .u64 es) ck)) (hr : ∀ x ∈ es, ptrK.R 57 w1 0 T x.2.1 (content ws x.1)) : Ents w1 T qb ws D es ck :=
  ⟨hb, h.once, h.born, h.clock, hr, h.some_, h.still, h.apart, h.cover⟩
theorem t62 : ∀ q, q ∈ 57 :: ptrK.E → q ≠ 62 := by
  intro q hq
  have : q ∈ [57] := hq
  simp at this
  omega
theorem Ents.flag {w : World} {T : Nat → Prop} {qb : Nat} {ws : Wl} {D : Int → Bool} {es : List Ent} {ck : Nat} (h : Ents w T qb ws D es ck) {b : Nat} {cs : Array Value} (hb : w.heap[b]? = some (.cells cs 62 (0, 0))) (u : Value) : Ents (w.setCell ⟨b, 0, none⟩ u) T qb ws D es ck := by
  refine h.move ?_ (fun x hx => Kd.R_set (h.row x hx) hb t62 0 u)
  rw [Below.heap_setCell]
  · exact h.blk
  · rintro e
    have := h.blk
    rw [show qb = b from e, hb] at this
    cases this
theorem Ents.kp {w w1 : World} {T S : Nat → Prop} {qb : Nat} {ws : Wl} {D : Int → Bool} {es : List Ent} {ck : Nat} (h : Ents w T qb ws D es ck) (hk : Kp w w1 S) (hq : ¬ S qb) (ht : ∀ k, T k → ¬ S k) : Ents w1 T qb ws D es ck :=
  h.move (hk.blk h.blk hq) (fun x hx => Kd.R_kept (h.row x hx) hk.kept ht)
theorem Ents.mono {w : World} {T T2 : Nat → Prop} {qb : Nat} {ws : Wl} {D : Int → Bool} {es : List Ent} {ck : Nat} (h : Ents w T qb ws D es ck) (ht : ∀ k, T k → T2 k) : Ents w T2 qb ws D es ck :=
  ⟨h.blk, h.once, h.born, h.clock, fun x hx => Kd.R_mono (h.row x hx) ht, h.some_, h.still, h.apart, h.cover⟩
theorem look_mem {k : Int} {v : Value} : ∀ {es : List Ent}, lookE k es = some v → ∃ x ∈ es, x.1 = k ∧ x.2.1 = v
  | [], h => by simp [lookE] at h
  | x :: t, h => by
    simp only [lookE] at h
    split at h
    · rename_i e; injection h with h; exact ⟨x, List.mem_cons_self, e, h⟩
    · obtain ⟨y, h1, h2⟩ := look_mem h; exact ⟨y, List.mem_cons_of_mem _ h1, h2⟩
theorem mem_drop {k : Int} {y : Ent} : ∀ {es : List Ent}, es.Pairwise (fun a b => a.1 ≠ b.1) → (y ∈ drop_ k es ↔ y ∈ es ∧ y.1 ≠ k)
  | [], _ => by simp [drop_]
  | x :: t, h => by
    have ⟨h1, h2⟩ := List.pairwise_cons.1 h
    simp only [drop_]
    by_cases e : x.1 = k
    · simp only [e, if_true, List.mem_cons]
      constructor
      · intro hy; exact ⟨.inr hy, fun e2 => h1 y hy (by rw [e, e2])⟩
      · rintro ⟨hy | hy, hn⟩
        · subst hy; exact absurd e hn
        · exact hy
    · simp only [e, if_false, List.mem_cons, mem_drop h2]
      constructor
      · rintro (hy | ⟨hy, hn⟩)
        · subst hy; exact ⟨.inl rfl, e⟩
        · exact ⟨.inr hy, hn⟩
      · rintro ⟨hy | hy, hn⟩
        · exact .inl hy
        · exact .inr ⟨hy, hn⟩
theorem drop_sub (k : Int) : ∀ es : List Ent, (drop_ k es).Sublist es
  | [] => .slnil
  | x :: t => by
    simp only [drop_]
    split
    · exact List.sublist_cons_self _ _
    · exact (drop_sub k t).cons_cons x
def orD (D : Int → Bool) (k : Int) : Int → Bool := fun i => D i || i == k
theorem Ents.drop {w : World} {T : Nat → Prop} {qb : Nat} {ws : Wl} {D : Int → Bool} {es : List Ent} {ck : Nat} (h : Ents w T qb ws D es ck) (k : Int) : Ents (setO w qb (.map (rawM .u64 (drop_ k es)) ck)) T qb ws (orD D k) (drop_ k es) ck := by
  have hs := drop_sub k es
  refine ⟨setO_same h.blk, h.once.sublist hs, h.born.sublist hs, fun x hx => h.clock x (hs.subset hx), fun x hx => ?_, fun x hx => h.some_ x (hs.subset hx), fun x hx => ?_, h.apart.sublist hs, fun p hp hd => ?_⟩
  · refine Kd.R_kept (S := fun i => i = qb) (Kd.R_mono (Kd.R_bound (h.row x (hs.subset hx))) (ok' := fun k => T k ∧ k ≠ qb) ?_) ⟨by rw [setO_size]; exact Nat.le_refl _, fun i _ hn => setO_far w _ hn⟩ (fun _ hk => hk.2) |> fun r => Kd.R_mono r (fun _ hk => hk.1)
    rintro i ⟨h1, _, _, q, _, cells, hc⟩
    refine ⟨h1, ?_⟩
    rintro rfl
    rw [h.blk] at hc
    cases hc
  · have ⟨h1, h2⟩ := (mem_drop h.once).1 hx
    simp [orD, h.still x h1, h2]
  · have ⟨h1, h2⟩ : D p.1 = false ∧ p.1 ≠ k := by simpa [orD] using hd
    obtain ⟨x, hx, e⟩ := h.cover p hp h1
    exact ⟨x, (mem_drop h.once).2 ⟨hx, by rw [e]; exact h2⟩, e⟩
/-- What is known of who waits. -/
structure WR (w : World) (T : Nat → Prop) (qb : Nat) (ws : Wl) (D : Int → Bool) (es : List Ent) (ck : Nat) : Prop where
  en : Ents w T qb ws D es ck
  fl : Flags w (fun p => D p.1) ws
  nd : ws.Pairwise (fun a b => a.2 ≠ b.2)
  tq : T qb
  tw : ∀ p ∈ ws, T p.2
/-- The map's own block, and the waiters'. -/
def SW (qb : Nat) (ws : Wl) : Nat → Prop := fun k => k = qb ∨ ∃ p ∈ ws, p.2 = k
def NotePost (w : World) (T : Nat → Prop) (qb : Nat) (ws : Wl) (D : Int → Bool) (es : List Ent) (ck : Nat) (k : Int) (e : Ending) (w' : World) : Prop :=
  e = .returned (.tuple #[]) ∧ WR w' T qb ws (orD D k) (drop_ k es) ck ∧ Kp w w' (SW qb ws)
theorem nodup_key {p q : Int × Nat} (e : p.2 = q.2) : ∀ {ws : Wl}, ws.Pairwise (fun a b => a.2 ≠ b.2) → p ∈ ws → q ∈ ws → p = q
  | [], _, hp, _ => by cases hp
  | a :: t, h, hp, hq => by
    have ⟨h1, h2⟩ := List.pairwise_cons.1 h
    rcases List.mem_cons.1 hp with hp | hp
    · rcases List.mem_cons.1 hq with hq | hq
      · rw [hp, hq]
      · exact absurd e (by rw [hp]; exact h1 q hq)
    · rcases List.mem_cons.1 hq with hq | hq
      · exact absurd e.symm (by rw [hq]; exact h1 p hp)
      · exact nodup_key e h2 hp hq
def NoteRel (w : World) (T : Nat → Prop) (qb : Nat) (ws : Wl) (D : Int → Bool) (es : List Ent) (ck : Nat) (k : Int) (iv : Value) (wr : World) : Prop :=
  ∃ m : Nat, iv = .int .i64 m ∧ m ≤ (content ws k).length ∧ Ents wr T qb ws D es ck ∧ Flags wr (fun p => D p.1 || ((content ws k).take m).contains p.2) ws ∧ Kp w wr (SW qb ws)
set_option maxHeartbeats 800000 in
theorem note_calls (T : Nat → Prop) (qb qbx : Nat) (ws : Wl) (D : Int → Bool) (es : List Ent) (ck : Nat) (k : Int) (v : Value) (w : World) (h : WR w T qb ws D es ck) (hv : lookE k es = some v)
    (hbx : w.heap[qbx]? = some (.cells #[.map (some qb)] 65 (0, 0))) (hqx : ¬ SW qb ws qbx) :
    Calls Try.prog 44 #[.int .u64 k, v, .pointer (some ⟨qbx, 0, none⟩)] w (NotePost w T qb ws D es ck k) := by
  obtain ⟨x, hx, ek, ev⟩ := look_mem hv
  have hrow := h.en.row x hx
  rw [ek, ev] at hrow
  obtain ⟨A0, c0, hval, hc0, hr0⟩ := Kd.R_reads hrow
  have hm := Kd.C_max hr0
  subst hval
  have HR := Lib.hid h
  have HX := Lib.hid hx
  have HK := Lib.hid ek
  have EV := Lib.hid ev
  clear hr0 hc0 hv h hx ek ev hrow
  go_enter Try.func44, Try.ntmps44
  go_wp2_with fail
  go_loopw [9] (fun iv wr => NoteRel w T qb ws D es ck k iv wr) (fun iv _ => (content ws k).length - (intOf iv).toNat)
  case atStart => exact ⟨0, rfl, Nat.zero_le _, HR.out.en, HR.out.fl.congr (fun p _ => by simp), Kp.refl w _⟩
  case round =>
    obtain ⟨m, rfl, hml, hE, hF, hK⟩ := hrel
    by_cases c1 : m < (content ws k).length
    · have hrow := hE.row x HX.out
      rw [HK.out, EV.out] at hrow
      obtain ⟨ad, e1, h1⟩ := at_ptr (Kd.R_reads' hrow).2.2 m c1
      obtain ⟨bk, hbk⟩ : ∃ bk, (content ws k).getD m 0 = bk := ⟨_, rfl⟩
      have hmem : (k, bk) ∈ ws := by
        refine mem_content.1 ?_
        rw [← hbk, List.getD_eq_getElem?_getD, List.getElem?_eq_getElem c1]
        exact List.getElem_mem c1
      have hfb := hF (k, bk) hmem
      have c2 := blk_cell hfb 0
      have f2 := blk_frozen hfb 0
      rw [hbk] at h1
      subst e1
      simp only [ptr] at h1
      have HE := Lib.hid hE
      have HF := Lib.hid hF
      have HB := Lib.hid hbk
      have HM := Lib.hid hmem
      have HFB := Lib.hid hfb
      clear hE hF hbk hmem hfb hrow
      go_wp2_with fail
      go_roundw
      case rel =>
        refine ⟨m + 1, by go_num, by omega, HE.out.flag HFB.out _, (HF.out.set bk).congr (fun p _ => ?_), hK.setCell (.inl (.inr ⟨_, HM.out, rfl⟩)) _⟩
        rw [List.take_add_one, List.getElem?_eq_getElem c1]
        have : (content ws k)[m] = bk := by rw [← HB.out, List.getD_eq_getElem?_getD, List.getElem?_eq_getElem c1]; rfl
        have e2 : (p.2 == bk) = decide (p.2 = bk) := by rw [Bool.eq_iff_iff]; simp
        simp [this, Bool.or_assoc, e2]
      case measure => simp [intOf]; omega
    · have e : m = (content ws k).length := by omega
      subst e
      have hb1 := hK.blk hbx hqx
      have c1 := blk_cell hb1 0
      have HE := Lib.hid hE
      have HF := Lib.hid hF
      clear hE hF
      go_wp2_with (at_delete; refine wpL_drop _ rfl _ _ rfl Try.underlying65 Try.underlying53 rfl rfl HE.out.blk ?_)
      go_end0
      have hF := HF.out
      have h := HR.out
      have hk2 : Kp wr (setO wr qb (.map (rawM .u64 (drop_ k es)) ck)) (fun i => i = qb) := (Kp.refl wr (fun i => i = qb)).setO (r := qb) (.inl rfl) _
      refine ⟨rfl, ⟨HE.out.drop k, ?_, h.nd, h.tq, h.tw⟩, hK.trans hk2 (fun i hi => by rw [hi]; exact .inl (.inl rfl))⟩
      refine (hF.kp hk2 (fun p hp hn => ?_)).congr (fun p hp => ?_)
      · have h1 := hF p hp
        have h2 := HE.out.blk
        rw [hn, h2] at h1
        cases h1
      · rw [List.take_length]
        simp only [orD]
        congr 1
        rw [Bool.eq_iff_iff]
        simp only [List.contains_iff_mem, mem_content, beq_iff_eq]
        constructor
        · intro hm
          have := nodup_key (p := p) (q := (k, p.2)) rfl h.nd hp hm
          rw [this]
        · intro e
          rw [← e]; exact hp
end Go.Proofs.Ytimakagmhikhfaa.Wt
