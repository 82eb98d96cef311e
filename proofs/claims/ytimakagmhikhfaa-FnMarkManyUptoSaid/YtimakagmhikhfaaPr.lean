/- process: a mark is worked off, be it one index, many, or one who waits. -/
import Derived.Test.YtimakagmhikhfaaPq
import Derived.Defers
namespace Go.Proofs.Ytimakagmhikhfaa.Pr
open Go.RowKit Go.Proofs.Ytimakagmhikhfaa.Pq Go.Proofs.YtimakagmhikhfaaW.PrintWords Go.Proofs.YtimakagmhikhfaaW.PrintLast Go.Proofs.YtimakagmhikhfaaW.PrintMore Go.Proofs.Ytimakagmhikhfaa.Mk Go.Proofs.Ytimakagmhikhfaa.Fr Go.Proofs.Ytimakagmhikhfaa.Hp Go.Proofs.Ytimakagmhikhfaa.Wt Go.Proofs.Ytimakagmhikhfaa.Px Go.Proofs.Ytimakagmhikhfaa.Po
set_option linter.unusedVariables false
set_option linter.unusedSimpArgs false
/-- The mark in memory, between calls. -/
structure SX (w : World) (T : Nat → Prop) (wb pb qb : Nat) (nm v : Value) (hs : List Int) (l : List (Int × Int)) (till last : Int) (ws : Wl) (D : Int → Bool) (es : List Ent) (ck : Nat) : Prop where
  hr : (Kd.int .u64).R 53 w 0 (fun _ => True) v hs
  hw : w.heap[wb]? = some (.cells #[.int .u64 till, .int .u64 last, nm, v, .map (some pb), .map (some qb)] 68 (0, 0))
  pm : ∃ pes pck, w.heap[pb]? = some (.map (rawM .u64 pes) pck) ∧ PMap pes l
  wr : WR w T qb ws D es ck
  ne : pb ≠ qb
  tv : ∀ k, v.ownBlock = some k → T k
  tw : T wb
  tp : T pb
theorem info57 : (Try.prog.info? 57).map (fun i => (i.zero, i.size, i.bytes)) = some (some (.pointer none), 1, 8) := by kernel_rfl
theorem up1 {w : World} {i : Nat} {o p : Obj} (h : w.heap[i]? = some o) : (w.alloc p).heap[i]? = some o := (Below.heap_alloc _ p _ (blk_lt h)).trans h
theorem run_store_op {P : Program} {o : Oper} {a : Act} {q : IntKind} {t kt et : TypeId} {b ck : Nat} {es : List Ent} {k : Int} (w : World) (m x v : Operand) (hop : o.op = Op.mapUpdate t m x v) (val : Value) (ht : P.underlying t = some (.map kt et)) (hk : P.underlying kt = some (.int q))
    (hm : a.eval m = .map (some b)) (hx : a.eval x = .int q k) (hv : a.eval v = val) (hb : w.heap[b]? = some (.map (rawM q es) ck)) : (execOp a.eval o).run P w = .ok .skip (setO w b (.map (rawM q (storedE k val ck es)) (clockE k ck es))) := by
  have hrun := Fr.run_store_map (k := k) val ht hk hb
  simp [execOp, hop, hm, hx, hv, hrun, Result.andThen]
theorem normal_only {P : Program} {c : Code} {Q : Exit → Act → World → Prop} {a : Act} {w : World} (h : c.wp P (fun e a w => e = .normal ∧ Q e a w) a w) : c.wp P Q a w := Code.wp_mono (fun _ _ _ h => h.2) h
theorem asc_len : ∀ {l : List (Int × Int)} {u m : Int}, Asc l → (∀ p ∈ l, u < p.1 ∧ p.1 ≤ m) → u ≤ m → (l.length : Int) ≤ m - u
  | [], u, m, _, _, h => by simp; omega
  | (j, c) :: t, u, m, ha, h, hm => by
    have ⟨h1, h2⟩ := List.pairwise_cons.1 ha
    have h3 := h (j, c) List.mem_cons_self
    simp only [] at h3
    have := asc_len (u := j) (m := m) h2 (fun p hp => ⟨h1 p hp, (h p (List.mem_cons_of_mem _ hp)).2⟩) h3.2
    simp
    omega
theorem _root_.Go.Proofs.Ytimakagmhikhfaa.Mk.Fine.len {u N : Int} {l : List (Int × Int)} (h : Fine u l N) : l.length ≤ 1099511627776 := by
  have := asc_len h.asc (fun p hp => ⟨(h.above p hp).1, (h.above p hp).2.1⟩) h.hi
  have := h.lo
  simp only [most] at *
  omega
theorem past1 {w : World} {p : Addr} {v : Value} (h : w.cell? p = some v) (a : Obj) : (w.alloc a).cell? p = some v := (World.cell?_alloc_lt w a p (World.block_lt_of_cell? w p h)).trans h
theorem past2 {w : World} {p : Addr} {v : Value} (h : w.cell? p = some v) (a b : Obj) : ((w.alloc a).alloc b).cell? p = some v := past1 (past1 h a) b
theorem five {w : World} (a b c d e : Obj) : (((((w.alloc a).alloc b).alloc c).alloc d).alloc e).drew.heap[w.heap.size]? = some a ∧ (((((w.alloc a).alloc b).alloc c).alloc d).alloc e).drew.heap[w.heap.size + 1]? = some b ∧ (((((w.alloc a).alloc b).alloc c).alloc d).alloc e).drew.heap[w.heap.size + 1 + 1]? = some c ∧ (((((w.alloc a).alloc b).alloc c).alloc d).alloc e).drew.heap[w.heap.size + 1 + 1 + 1]? = some d ∧ (((((w.alloc a).alloc b).alloc c).alloc d).alloc e).drew.heap[w.heap.size + 1 + 1 + 1 + 1]? = some e := by
  have s1 : (w.alloc a).heap.size = w.heap.size + 1 := by simp [World.alloc_eq]
  have s2 : ((w.alloc a).alloc b).heap.size = w.heap.size + 1 + 1 := by simp [World.alloc_eq]
  have s3 : (((w.alloc a).alloc b).alloc c).heap.size = w.heap.size + 1 + 1 + 1 := by simp [World.alloc_eq]
  have s4 : ((((w.alloc a).alloc b).alloc c).alloc d).heap.size = w.heap.size + 1 + 1 + 1 + 1 := by simp [World.alloc_eq]
  have e1 := blk_new w a
  have e2 := blk_new (w.alloc a) b
  have e3 := blk_new ((w.alloc a).alloc b) c
  have e4 := blk_new (((w.alloc a).alloc b).alloc c) d
  have e5 := blk_new ((((w.alloc a).alloc b).alloc c).alloc d) e
  rw [s1] at e2
  rw [s2] at e3
  rw [s3] at e4
  rw [s4] at e5
  have up : ∀ {w : World} {i : Nat} {o : Obj} (p : Obj), w.heap[i]? = some o → (w.alloc p).heap[i]? = some o := fun p h => (Below.heap_alloc _ p _ (blk_lt h)).trans h
  exact ⟨up e (up d (up c (up b e1))), up e (up d (up c e2)), up e (up d e3), up e e4, e5⟩
theorem px_of {w w1 : World} {T : Nat → Prop} {pbx ibx wbx qbx mbx wb pb qb : Nat} {v : Value} {hs : List Int} {l : List (Int × Int)} {till last : Int} {nm : Value} {ws : Wl} {D : Int → Bool} {es : List Ent} {ck : Nat}
    (h : SX w T wb pb qb nm v hs l till last ws D es ck) (hk : Kp w w1 (fun _ => False))
    (b1 : w1.heap[pbx]? = some (.cells #[.map (some pb)] 64 (0, 0))) (b2 : w1.heap[wbx]? = some (.cells #[ptr wb] 49 (0, 0))) (b3 : w1.heap[qbx]? = some (.cells #[.map (some qb)] 65 (0, 0))) (bi : w1.heap[ibx]? = some (.cells #[v] 66 (0, 0))) (bm : ∃ cs, w1.heap[mbx]? = some (.cells cs 71 (0, 0))) :
    PX w1 (fun k => T k ∨ (w.heap.size ≤ k ∧ k ≠ pbx ∧ k ≠ wbx ∧ k ≠ qbx ∧ k ≠ mbx)) pbx ibx wbx qbx wb pb qb v hs l till last nm v ws D es ck := by
  obtain ⟨pes, pck, h1, h2⟩ := h.pm
  obtain ⟨cs, bm⟩ := bm
  refine ⟨b1, b2, b3, ⟨bi, Kd.R_kept h.hr hk.kept (fun _ _ h => h)⟩, hk.blk h.hw (fun h => h), ⟨pes, pck, hk.blk h1 (fun h => h), h2⟩, ?_, h.ne, fun k hk => .inl (h.tv k hk), fun k hk2 => .inr ?_⟩
  · have W := WRkeep h.wr hk (Only.none w [] (fun _ => False)) (by simp) (by simp) (fun h => h)
    exact ⟨W.en.mono (fun _ h => .inl h), W.fl, W.nd, .inl W.tq, fun p hp => .inl (W.tw p hp)⟩
  · have l1 := blk_lt b1
    have l2 := blk_lt b2
    have l3 := blk_lt b3
    have l4 := blk_lt bm
    have := hk.size
    omega
theorem un_calls (ibx wbx wb : Nat) (A : Option Addr) (m c : Nat) (v0 : Value) (a1 b1 d1 e1 g1 : Value) (u : FrameMode) (w : World) (h1 : w.heap[ibx]? = some (.cells #[.slice A m c] 66 (0, 0))) (h2 : w.heap[wbx]? = some (.cells #[ptr wb] 49 (0, 0)))
    (h3 : w.heap[wb]? = some (.cells #[a1, b1, d1, v0, e1, g1] 68 (0, 0))) :
    CallsD Try.prog 39 #[ptr ibx, ptr wbx] u w fun en u' w' => u' = u ∧ (en = .returned (.tuple #[]) ∧ w' = w.setCell ⟨wb, 3, none⟩ (.slice A m c)) := by
  have c1 := blk_cell h1 0
  have c2 := blk_cell h2 0
  have c3 := blk_cell h3 3
  have f3 := blk_frozen h3 3
  simp only [ptr] at c2 ⊢
  go_enter_d Try.func39, Try.ntmps39
  go_wp2
  go_end0
  exact ⟨rfl, rfl⟩
theorem one_d (w : World) (T : Nat → Prop) (pbx ibx wbx qbx wb pb qb : Nat) (v : Value) (hs : List Int) (l pend : List (Int × Int)) (till last : Int) (nm hv0 : Value) (ws : Wl) (es : List Ent) (ck : Nat) (i d : Int) (dn : Bool) (N : Int) (hd : (if dn then (-1 : Int) else 1) = d)
    (h : PX w T pbx ibx wbx qbx wb pb qb v hs l till last nm hv0 ws (fun i => decide (i ≤ till)) es ck) (hr : Rep pend l hs) (hf : Fine till pend N) (hf2 : Fine till (ins i d pend) N) (hi : till < i) (him : i ≤ most) (hN : N ≤ 4611686018427387904)
    (tw : T wb) (tp : T pb) (ti : T ibx) (n1 : ¬ T pbx) (n2 : ¬ T wbx) (n3 : ¬ T qbx) :
    Calls Try.prog 40 #[.int .u64 i, .bool dn, .pointer (some ⟨pbx, 0, none⟩), .pointer (some ⟨ibx, 0, none⟩), .pointer (some ⟨wbx, 0, none⟩), .pointer (some ⟨qbx, 0, none⟩)] w
      (OnePost w T pbx ibx wbx qbx wb pb qb till last nm hv0 ws (popz till (ins i d pend)).2 (popz till (ins i d pend)).1) := by
  subst hd
  refine one_calls w T pbx ibx wbx qbx wb pb qb v hs l pend till last nm hv0 ws es ck i dn N h hr hf hf2 hi him hN ?_ tw tp ti n1 n2 n3
  have h1 := hr.ph.length_eq
  have h2 := hf.len
  simp at h1
  omega
def addAll (d : Int) : List Int → Wat → Wat
  | [], σ => σ
  | x :: t, σ => addAll d t (σ.add x d)
def OkAll (d N : Int) : List Int → Wat → Prop
  | [], _ => True
  | x :: t, σ => Fine σ.till σ.pend N ∧ Fine σ.till (ins x d σ.pend) N ∧ σ.till < x ∧ x ≤ most ∧ OkAll d N t (σ.add x d)
/-- What process is to do: an index, many, or one who waits; what comes of it. -/
inductive Job (w : World) (T : Nat → Prop) (σ : Wat) (ws : Wl) (i : Int) (wp A1 : Option Addr) (m1 k1 : Nat) (dn : Bool) (d : Int) (σ2 : Wat) (ws2 : Wl) : Prop where
  | one (N : Int) (e1 : wp = none) (e2 : A1 = none) (e3 : m1 = 0) (e4 : k1 = 0) (e5 : σ2 = σ.add i d) (e6 : ws2 = ws) (hf : Fine σ.till σ.pend N) (hf2 : Fine σ.till (ins i d σ.pend) N) (hi : σ.till < i) (him : i ≤ most) (hN : N ≤ 4611686018427387904)
  | many (xs : List Int) (N : Int) (e1 : wp = none) (e2 : i = 0) (e3 : m1 = xs.length) (e5 : σ2 = addAll d xs σ) (e6 : ws2 = ws) (h0 : 0 < xs.length) (hr : (Kd.int .u64).R 53 w 0 (fun k => ¬ T k) (.slice A1 m1 k1) xs) (hx : OkAll d N xs σ) (hN : N ≤ 4611686018427387904)
  | wait (b : Nat) (e1 : wp = some ⟨b, 0, none⟩) (e2 : A1 = none) (e3 : m1 = 0) (e4 : k1 = 0) (e5 : σ2 = σ) (e6 : ws2 = ws ++ [(i, b)]) (hb : w.heap[b]? = some (.cells #[.bool false] 62 (0, 0))) (hn : ∀ p ∈ ws, p.2 ≠ b) (hi : σ.till < i) (hl : ws.length ≤ 1000000000000)
/-- What process leaves. -/
def PrPost (w : World) (T : Nat → Prop) (wb pb qb : Nat) (nm : Value) (σ : Wat) (last : Int) (ws : Wl) (e : Ending) (w' : World) : Prop :=
  e = .returned (.tuple #[]) ∧ ∃ (T2 : Nat → Prop) (v : Value) (hs : List Int) (l : List (Int × Int)) (es : List Ent) (ck : Nat),
    SX w' T2 wb pb qb nm v hs l σ.till last ws (fun i => decide (i ≤ σ.till)) es ck ∧ Rep σ.pend l hs ∧ (∀ k, T2 k → k < w'.heap.size) ∧ (∀ k, T2 k → T k ∨ w.heap.size ≤ k ∨ ∃ p ∈ ws, p.2 = k) ∧ Kp w w' T
/-- Behind the boxes. -/
def Boxed (w : World) (T : Nat → Prop) (ibx wbx mbx wb pb qb : Nat) (nm v : Value) (hs : List Int) (l : List (Int × Int)) (till last : Int) (ws : Wl) (es : List Ent) (ck : Nat) (mcs : Array Value) (s5 s6 : Value) (wr : World) : Prop :=
  ∃ pbx qbx, s5 = ptr pbx ∧ s6 = ptr qbx ∧ pbx ≠ ibx ∧ qbx ≠ ibx ∧ w.heap.size ≤ pbx ∧ w.heap.size ≤ qbx ∧ PX wr (fun k => T k ∨ (w.heap.size ≤ k ∧ k ≠ pbx ∧ k ≠ wbx ∧ k ≠ qbx ∧ k ≠ mbx)) pbx ibx wbx qbx wb pb qb v hs l till last nm v ws (fun i => decide (i ≤ till)) es ck ∧ wr.heap[mbx]? = some (.cells mcs 71 (0, 0)) ∧ Kp w wr (fun _ => False)
theorem _root_.Go.Proofs.Ytimakagmhikhfaa.Wt.WR.bound {w : World} {T : Nat → Prop} {qb : Nat} {ws : Wl} {D : Int → Bool} {es : List Ent} {ck : Nat} (h : WR w T qb ws D es ck) : WR w (fun k => T k ∧ k < w.heap.size) qb ws D es ck :=
  ⟨⟨h.en.blk, h.en.once, h.en.born, h.en.clock, fun x hx => Kd.R_mono (Kd.R_bound (h.en.row x hx)) (fun k hk => by
      obtain ⟨h0, _, _, q, hq, cells, hc⟩ := hk
      exact ⟨h0, blk_lt hc⟩), h.en.some_, h.en.still, h.en.apart, h.en.cover⟩, h.fl, h.nd, ⟨h.tq, blk_lt h.en.blk⟩, fun p hp => ⟨h.tw p hp, blk_lt (h.fl p hp)⟩⟩
theorem t68 : ∀ q, q ∈ 53 :: (Kd.int .u64).E → q ≠ 68 := by
  intro q hq
  have : q ∈ [53] := hq
  simp at this
  omega
theorem pr_end {w w9 : World} {T T1 : Nat → Prop} {pbx ibx wbx qbx wb pb qb : Nat} {v9 hv nm : Value} {hs9 : List Int} {l9 : List (Int × Int)} {last : Int} {ws : Wl} {es9 : List Ent} {ck9 : Nat} {σ : Wat}
    (hX : PX w9 T1 pbx ibx wbx qbx wb pb qb v9 hs9 l9 σ.till last nm hv ws (fun i => decide (i ≤ σ.till)) es9 ck9) (hR : Rep σ.pend l9 hs9) (hK : Kp w w9 T) (q7 : ∀ k, T1 k → T k ∨ w.heap.size ≤ k ∨ ∃ p ∈ ws, p.2 = k) (tw : T wb) (tp : T1 pb) (tw1 : T1 wb) :
    PrPost w T wb pb qb nm σ last ws (.returned (.tuple #[])) (w9.setCell ⟨wb, 3, none⟩ v9) := by
  obtain ⟨pes, pck, h1, h2⟩ := hX.pm
  have hk : Kp w9 (w9.setCell ⟨wb, 3, none⟩ v9) (fun k => k = wb) := (Kp.refl w9 (fun k => k = wb)).setCell (.inl rfl) _
  have ho : Only w9 (fun k => k = wb) [68] (fun _ => False) := fun k hk => by rw [hk]; exact .inl ⟨_, _, hX.hw, by simp⟩
  have hz : (w9.setCell ⟨wb, 3, none⟩ v9).heap.size = w9.heap.size := by simp
  have hp := blk_put hX.hw 3 v9 rfl
  have W := (WRkeep hX.wr hk ho (by decide) (by decide) (fun h => h)).bound
  rw [hz] at W
  refine ⟨rfl, fun k => T1 k ∧ k < w9.heap.size, v9, hs9, l9, es9, ck9, ⟨Kd.R_set hX.hb.hr hX.hw t68 3 v9, hp, ⟨pes, pck, hk.blk h1 (ho.map h1 (fun h => h)), h2⟩, W, hX.ne, fun k hk2 => ⟨hX.tv k hk2, ?_⟩, ⟨tw1, blk_lt hX.hw⟩, ⟨tp, blk_lt h1⟩⟩, hR, fun k hk2 => by rw [hz]; exact hk2.2, fun k hk2 => q7 k hk2.1, hK.setCell (.inl tw) _⟩
  obtain ⟨cells, hc⟩ := Kd.R_typed hX.hb.hr k hk2
  exact blk_lt hc
def ManyRel (w : World) (T : Nat → Prop) (pbx ibx wbx qbx wb pb qb : Nat) (last : Int) (nm hv : Value) (ws : Wl) (d N : Int) (xs : List Int) (σ : Wat) (xv : Value) (wr : World) : Prop :=
  ∃ (m : Nat) (u : Int) (p : List (Int × Int)) (v : Value) (hs : List Int) (l : List (Int × Int)) (es : List Ent) (ck : Nat), xv = .int .i64 m ∧ m ≤ xs.length ∧ PX wr T pbx ibx wbx qbx wb pb qb v hs l u last nm hv ws (fun i => decide (i ≤ u)) es ck ∧ Rep p l hs ∧ OkAll d N (xs.drop m) ⟨u, last, p⟩ ∧ addAll d (xs.drop m) ⟨u, last, p⟩ = addAll d xs σ ∧ Kp w wr T
set_option maxHeartbeats 4000000 in
set_option maxRecDepth 100000 in
theorem process_calls (w : World) (T : Nat → Prop) (wb pb qb : Nat) (nm v : Value) (hs : List Int) (l pend : List (Int × Int)) (till last : Int) (ws : Wl) (es : List Ent) (ck : Nat) (i : Int) (wp A1 : Option Addr) (m1 k1 : Nat) (dn : Bool) (d : Int) (σ2 : Wat) (ws2 : Wl) (hd : (if dn then (-1 : Int) else 1) = d)
    (h : SX w T wb pb qb nm v hs l till last ws (fun i => decide (i ≤ till)) es ck) (hr : Rep pend l hs) (hT : ∀ k, T k → k < w.heap.size) (hj : Job w T ⟨till, last, pend⟩ ws i wp A1 m1 k1 dn d σ2 ws2) :
    Calls Try.prog 38 #[ptr wb, .agg #[.int .u64 i, .pointer wp, .slice A1 m1 k1, .bool dn]] w (PrPost w T wb pb qb nm σ2 last ws2) := by
  obtain ⟨A0, cap0, rfl⟩ := Kd.R_slice h.hr
  have c1 : w.cell? ⟨wb, 0, none⟩ = some (.int .u64 till) := blk_cell h.hw 0
  have c4 : w.cell? ⟨wb, 3, none⟩ = some (.slice A0 hs.length cap0) := blk_cell h.hw 3
  have c5 : w.cell? ⟨wb, 4, none⟩ = some (.map (some pb)) := blk_cell h.hw 4
  have c6 : w.cell? ⟨wb, 5, none⟩ = some (.map (some qb)) := blk_cell h.hw 5
  have d4 := past2 c4
  have d5 : ∀ a b c, (((w.alloc a).alloc b).alloc c).cell? ⟨wb, 4, none⟩ = some (.map (some pb)) := fun a b c => past1 (past2 c5 a b) c
  have d6 : ∀ a b c, (((w.alloc a).alloc b).alloc c).cell? ⟨wb, 5, none⟩ = some (.map (some qb)) := fun a b c => past1 (past2 c6 a b) c
  have e5 : ∀ a b c d, ((((w.alloc a).alloc b).alloc c).alloc d).cell? ⟨wb, 4, none⟩ = some (.map (some pb)) := fun a b c d => past1 (d5 a b c) d
  have e6 : ∀ a b c d, ((((w.alloc a).alloc b).alloc c).alloc d).cell? ⟨wb, 5, none⟩ = some (.map (some qb)) := fun a b c d => past1 (d6 a b c) d
  have g5 : ∀ a b c d e, (((((w.alloc a).alloc b).alloc c).alloc d).alloc e).cell? ⟨wb, 4, none⟩ = some (.map (some pb)) := fun a b c d e => past1 (e5 a b c d) e
  have g6 : ∀ a b c d e, (((((w.alloc a).alloc b).alloc c).alloc d).alloc e).cell? ⟨wb, 5, none⟩ = some (.map (some qb)) := fun a b c d e => past1 (e6 a b c d) e
  have HX := Lib.hid h
  have HR := Lib.hid hr
  have HT := Lib.hid hT
  have HJ := Lib.hid hj
  have HD := Lib.hid hd
  clear h hr hT hj hd
  simp only [ptr]
  go_enter_defers Try.func38, Try.ntmps38
  go_upto_region 3 with (fail)
  go_cut [5, 6] from 13 (fun s5 s6 wr => Boxed w T (w.heap.size + 1 + 1) w.heap.size (w.heap.size + 1) wb pb qb nm (.slice A0 hs.length cap0) hs l till last ws es ck #[.int .u64 i, .pointer wp, .slice A1 m1 k1, .bool dn] s5 s6 wr)
  case first =>
    go_region
    all_goals (go_wp2_with fail; go_meet)
    case rel =>
      refine ⟨_, _, rfl, rfl, by omega, by omega, by omega, by omega, px_of HX.out ((((((Kp.refl w (fun _ => False)).alloc _).alloc _).alloc _).alloc _).alloc _).drew (five _ _ _ _ _).2.2.2.1 (five _ _ _ _ _).1 (five _ _ _ _ _).2.2.2.2 (five _ _ _ _ _).2.2.1 ⟨_, (five _ _ _ _ _).2.1⟩, (five _ _ _ _ _).2.1, ((((((Kp.refl w (fun _ => False)).alloc _).alloc _).alloc _).alloc _).alloc _).drew⟩
    case rel =>
      refine ⟨_, _, rfl, rfl, by omega, by omega, by omega, by omega, px_of HX.out ((((((Kp.refl w (fun _ => False)).alloc _).alloc _).alloc _).alloc _).alloc _).drew (five _ _ _ _ _).2.2.2.2 (five _ _ _ _ _).1 (five _ _ _ _ _).2.2.2.1 (five _ _ _ _ _).2.2.1 ⟨_, (five _ _ _ _ _).2.1⟩, (five _ _ _ _ _).2.1, ((((((Kp.refl w (fun _ => False)).alloc _).alloc _).alloc _).alloc _).alloc _).drew⟩
  case rest =>
    obtain ⟨pbx, qbx, rfl, rfl, np, nq, lp, lq, hX, hM, hKw⟩ := hcut
    clear c1 c4 c5 c6 d4 d5 d6 e5 e6 g5 g6
    have m0 := blk_cell hM 0
    have m1' := blk_cell hM 1
    have m2 := blk_cell hM 2
    have m3 := blk_cell hM 3
    have u1 := blk_cell hX.hw 0
    have u2 := blk_cell hX.b2 0
    have nT : ∀ k, T k → k < w.heap.size := HT.out
    obtain ⟨T1, hT1⟩ : ∃ T1 : Nat → Prop, T1 = (fun k => T k ∨ (w.heap.size ≤ k ∧ k ≠ pbx ∧ k ≠ w.heap.size ∧ k ≠ qbx ∧ k ≠ w.heap.size + 1)) := ⟨_, rfl⟩
    have q1 : ∀ k, T k → T1 k := fun k hk => by rw [hT1]; exact .inl hk
    have q2 : T1 (w.heap.size + 1 + 1) := by rw [hT1]; exact .inr ⟨by omega, by omega, by omega, by omega, by omega⟩
    have q3 : ¬ T1 pbx := by rw [hT1]; rintro (h | h); (have := nT _ h; omega); omega
    have q4 : ¬ T1 qbx := by rw [hT1]; rintro (h | h); (have := nT _ h; omega); omega
    have q5 : ¬ T1 w.heap.size := by rw [hT1]; rintro (h | h); (have := nT _ h; omega); omega
    have q6 : ¬ T1 (w.heap.size + 1) := by rw [hT1]; rintro (h | h); (have := nT _ h; omega); omega
    have q7 : ∀ k, T1 k → T k ∨ w.heap.size ≤ k := by
      intro k hk
      rw [hT1] at hk
      exact hk.imp (fun h => h) (fun h => h.1)
    rw [← hT1] at hX
    have HX1 := Lib.hid hX
    have HM := Lib.hid hM
    have Q1 := Lib.hid q1
    have Q7 := Lib.hid q7
    clear hX hM nT q1 q7 hT1
    have hj := HJ.out
    clear HJ
    cases hj with
    | one N e1 e2 e3 e4 e5 e6 hf hf2 hi him hN =>
      subst e1 e2 e3 e4
      simp only [] at hf hf2 hi
      have i0 : 0 < i := by have := hf.lo; omega
      have o1 := one_d wc T1 pbx (w.heap.size + 1 + 1) w.heap.size qbx wb pb qb (.slice A0 hs.length cap0) hs l pend till last nm (.slice A0 hs.length cap0) ws es ck i d dn N HD.out HX1.out HR.out hf hf2 hi him hN (Q1.out _ HX.out.tw) (Q1.out _ HX.out.tp) q2 q3 q5 q4
      have HO := Lib.hid o1
      have E5 := Lib.hid e5
      have E6 := Lib.hid e6
      clear hf hf2 o1 e5 e6
      simp only [ptr] at *
      go_wp2_with fail
      refine HO.out.mono ?_
      rintro e w1 ⟨rfl, v1, hs1, l1, es1, ck1, hX1, hR1, hK1⟩
      have M2 : w1.cell? ⟨w.heap.size + 1, 2, none⟩ = some (.slice none 0 0) := blk_cell (hK1.blk HM.out q6) 2
      have HX2 := Lib.hid hX1
      clear hX1
      go_wp2_with fail
      go_loopw [88] (fun xv wr => xv = .int .i64 0 ∧ w1 = wr) (fun _ _ => 0)
      case atStart => exact ⟨rfl, rfl⟩
      case round =>
        obtain ⟨rfl, rfl⟩ := hrel
        go_wp2_with fail
        obtain ⟨A9, c9, rfl⟩ := Kd.R_slice HX2.out.hb.hr
        refine leaves_cons (f := 39) (args := #[.pointer (some ⟨w.heap.size + 1 + 1, 0, none⟩), .pointer (some ⟨w.heap.size, 0, none⟩)]) (by simp) (by simp [go_sem]) ?_
        refine (un_calls (w.heap.size + 1 + 1) w.heap.size wb A9 hs1.length c9 _ _ _ _ _ _ _ _ HX2.out.hb.hb HX2.out.b2 HX2.out.hw).mono ?_
        rintro e u' w'' ⟨rfl, rfl, rfl⟩
        refine ⟨_, results_none rfl _ _ _, ?_⟩
        rw [E5.out, E6.out]
        exact pr_end HX2.out hR1 ((hKw.mono (fun _ h => h.elim)).trans hK1 Q7.out) (fun k h => (Q7.out k h).imp (fun h => h) .inl) HX.out.tw (Q1.out _ HX.out.tp) (Q1.out _ HX.out.tw)
    | many xs N e1 e2 e3 e5 e6 h0 hr hx hN =>
      subst e1 e2 e3
      have hm : xs.length ≤ 9223372036854775807 := by
        obtain ⟨_, _, _, _, hr0⟩ := Kd.R_reads hr
        exact Kd.C_max hr0
      have hrow : (Kd.int .u64).R 53 wc 0 (fun k => ¬ T1 k) (.slice A1 xs.length k1) xs := by
        refine Kd.R_kept (Kd.R_mono (Kd.R_bound hr) ?_) hKw.kept (fun _ _ h => h)
        rintro k ⟨h0, _, _, q, hq, cells, hc⟩ h
        rcases Q7.out k h with h | h
        · exact h0 h
        · have := blk_lt hc
          omega
      have HRW := Lib.hid hrow
      have HXS := Lib.hid hx
      have E5 := Lib.hid e5
      have E6 := Lib.hid e6
      have hlz : ((xs.length : Int) == 0) = false := by rw [beq_eq_false_iff_ne]; omega
      clear hr hrow hx e5 e6
      simp only [ptr] at *
      go_wp2_with fail
      go_loopw [88] (fun xv wr => ManyRel wc T1 pbx (w.heap.size + 1 + 1) w.heap.size qbx wb pb qb last nm (.slice A0 hs.length cap0) ws d N xs ⟨till, last, pend⟩ xv wr) (fun xv _ => xs.length - (intOf xv).toNat)
      case atStart => exact ⟨0, till, pend, _, _, _, _, _, rfl, Nat.zero_le _, HX1.out, HR.out, HXS.out, rfl, Kp.refl _ _⟩
      case round =>
        obtain ⟨m, u, p, v1, hs1, l1, es1, ck1, rfl, hml, hX1, hR1, hOk, hAll, hK1⟩ := hrel
        have HX2 := Lib.hid hX1
        have HR2 := Lib.hid hR1
        have HOK := Lib.hid hOk
        have HALL := Lib.hid hAll
        clear hX1 hR1 hOk hAll
        have M3 : wr.cell? ⟨w.heap.size + 1, 3, none⟩ = some (.bool dn) := blk_cell (hK1.blk HM.out q6) 3
        by_cases c1 : m < xs.length
        · have hrow := Kd.R_kept HRW.out hK1.kept (fun _ h => h)
          obtain ⟨ad, e1, h1⟩ := Kd.at_int (Kd.R_reads' hrow).2.2 m (by omega) (by omega)
          subst e1
          obtain ⟨x, t, hdr⟩ : ∃ x t, xs.drop m = x :: t := by
            cases h : xs.drop m with
            | nil => simp at h; omega
            | cons x t => exact ⟨x, t, rfl⟩
          have hx1 : rd xs (m : Int) = x := by
            have := congrArg List.head? hdr
            simp [List.head?_drop] at this
            simp [rd, this]
          have hok := HOK.out
          rw [hdr] at hok
          obtain ⟨o1, o2, o3, o4, o5⟩ := hok
          simp only [] at o1 o2 o3
          have HA := Lib.hid (one_d wr T1 pbx (w.heap.size + 1 + 1) w.heap.size qbx wb pb qb v1 hs1 l1 p u last nm (.slice A0 hs.length cap0) ws es1 ck1 x d dn N HD.out HX2.out HR2.out o1 o2 o3 o4 hN (Q1.out _ HX.out.tw) (Q1.out _ HX.out.tp) q2 q3 q5 q4)
          have O5 := Lib.hid o5
          have HDR := Lib.hid hdr
          rw [hx1] at h1
          simp only [Int.toNat_natCast] at h1
          clear o1 o2 o3 o4 o5 hdr hx1 hrow
          go_wp2_with fail
          refine HA.out.mono ?_
          rintro e w2 ⟨rfl, v2, hs2, l2, es2, ck2, hX3, hR3, hK3⟩
          go_wp2_with fail
          go_roundw
          case rel =>
            have e1 : xs.drop (m + 1) = t := by
              have := congrArg List.tail HDR.out
              simpa [List.tail_drop] using this
            refine ⟨m + 1, _, _, v2, hs2, l2, es2, ck2, ?_, by omega, hX3, hR3, ?_, ?_, hK1.trans hK3 (fun k h => .inl h)⟩
            · go_num
            · rw [e1]; exact O5.out
            · have ha := HALL.out
              rw [HDR.out] at ha
              rw [e1]; exact ha
          case measure => simp [intOf]; omega
        · go_wp2_with fail
          have hm : m = xs.length := by omega
          subst hm
          obtain ⟨A9, c9, rfl⟩ := Kd.R_slice HX2.out.hb.hr
          refine leaves_cons (f := 39) (args := #[.pointer (some ⟨w.heap.size + 1 + 1, 0, none⟩), .pointer (some ⟨w.heap.size, 0, none⟩)]) (by simp) (by simp [go_sem]) ?_
          refine (un_calls (w.heap.size + 1 + 1) w.heap.size wb A9 hs1.length c9 _ _ _ _ _ _ _ _ HX2.out.hb.hb HX2.out.b2 HX2.out.hw).mono ?_
          rintro e u' w'' ⟨rfl, rfl, rfl⟩
          refine ⟨_, results_none rfl _ _ _, ?_⟩
          have ha := HALL.out
          simp [addAll] at ha
          rw [E5.out, E6.out, ← ha]
          exact pr_end (σ := ⟨u, last, p⟩) HX2.out HR2.out ((hKw.mono (fun _ h => h.elim)).trans hK1 Q7.out) (fun k h => (Q7.out k h).imp (fun h => h) .inl) HX.out.tw (Q1.out _ HX.out.tp) (Q1.out _ HX.out.tw)
    | wait b e1 e2 e3 e4 e5 e6 hb hn hi hl =>
      subst e1 e2 e3 e4
      simp only [] at hi
      have E5 := Lib.hid e5
      have E6 := Lib.hid e6
      have HB := Lib.hid (hKw.blk hb (fun h => h))
      have HN := Lib.hid hn
      have hD : decide (i ≤ till) = false := decide_eq_false (by omega)
      have hq := HX1.out.wr.en.blk
      have hb3 := HX1.out.b3
      have HQ := Lib.hid hq
      have u3 : wc.cell? ⟨qbx, 0, none⟩ = some (.map (some qb)) := blk_cell hb3 0
      have M0 : wc.cell? ⟨w.heap.size + 1, 0, none⟩ = some (.int .u64 i) := blk_cell HM.out 0
      have M1 : wc.cell? ⟨w.heap.size + 1, 1, none⟩ = some (.pointer (some ⟨b, 0, none⟩)) := blk_cell HM.out 1
      have U1 : wc.cell? ⟨wb, 0, none⟩ = some (.int .u64 till) := blk_cell HX1.out.hw 0
      have hlc : (content ws i).length ≤ ws.length := by
        simp only [content, List.length_map]
        exact List.length_filter_le _ _
      clear e5 e6 hb hn hq hb3 m0 m1' m2 m3 u1
      simp only [ptr] at *
      cases hlk : lookE i es with
      | none =>
        have HL := Lib.hid hlk
        clear hlk
        go_wp2_with (first | (at_lookup; refine wpL_look_ok _ rfl _ _ rfl (.slice none 0 0) Try.underlying65 Try.underlying53 (zero51 _) rfl rfl HQ.out ?_; rw [HL.out]; simp only [Option.getD_none, Option.isSome_none]) | (at_mapUpdate; refine wpL_store _ rfl _ _ _ rfl (.slice (some ⟨wc.heap.size, 0, none⟩) 1 1) Try.underlying65 Try.underlying53 rfl rfl rfl (up1 HQ.out) ?_))
        have hce := Pq.Ents.empty HX1.out.wr.en hD HL.out
        have hPX := Pq.PX.put (w1 := wc.alloc (.cells #[ptr b] 57)) (R0 := none) (vn := .slice (some ⟨wc.heap.size, 0, none⟩) 1 1) HX1.out ((Kp.refl wc _).alloc _) (fun k hk => by cases hk) hD (by rw [hce]; exact row_one wc _ b (.inl (HX1.out.tf _ (Nat.le_refl _)))) (.inr ⟨_, rfl, Nat.le_refl _⟩) HB.out HN.out
        refine leaves_cons (f := 39) (args := #[.pointer (some ⟨w.heap.size + 1 + 1, 0, none⟩), .pointer (some ⟨w.heap.size, 0, none⟩)]) (by simp) (by simp [go_sem]) ?_
        refine (un_calls (w.heap.size + 1 + 1) w.heap.size wb A0 hs.length cap0 _ _ _ _ _ _ _ _ hPX.1.hb.hb hPX.1.b2 hPX.1.hw).mono ?_
        rintro e u' w'' ⟨rfl, rfl, rfl⟩
        refine ⟨_, results_none rfl _ _ _, ?_⟩
        rw [E5.out, E6.out]
        exact pr_end (σ := ⟨till, last, pend⟩) hPX.1 HR.out ((hKw.mono (fun _ h => h.elim)).trans hPX.2 Q7.out) (fun k h => by
          rcases h with h | h
          · exact (Q7.out k h).imp (fun h => h) .inl
          · exact .inr (.inr ⟨(i, b), by simp, h.symm⟩)) HX.out.tw (.inl (Q1.out _ HX.out.tp)) (.inl (Q1.out _ HX.out.tw))
      | some vv =>
        have HL := Lib.hid hlk
        obtain ⟨x, hx, ek, ev⟩ := look_mem hlk
        have hrow := HX1.out.wr.en.row x hx
        rw [ek, ev] at hrow
        have hty := Kd.R_typed hrow
        have HQN := Lib.hid (show ¬ some qb = vv.ownBlock from fun h => by
          obtain ⟨cells, hc⟩ := hty qb h.symm
          rw [HQ.out] at hc
          cases hc)
        have HN1 := Lib.hid (show ¬ some qbx = vv.ownBlock from fun h => by
          obtain ⟨cells, hc⟩ := hty qbx h.symm
          rw [HX1.out.b3] at hc
          injection hc with hc; injection hc with _ hc; cases hc)
        have HN2 := Lib.hid (show ¬ some (w.heap.size + 1) = vv.ownBlock from fun h => by
          obtain ⟨cells, hc⟩ := hty _ h.symm
          rw [HM.out] at hc
          injection hc with hc; injection hc with _ hc; cases hc)
        have HRW := Lib.hid (Kd.R_mono (ok' := fun k => T1 k ∨ k = b) hrow (fun k h => .inl h))
        have hlb : ((content ws i).length + 1) * 8 ≤ 140737488355328 := by omega
        have HXX := Lib.hid (⟨x, hx, ek, congrArg Value.ownBlock ev⟩ : ∃ x ∈ es, x.1 = i ∧ x.2.1.ownBlock = vv.ownBlock)
        clear hlk hx ek ev hrow hty
        go_upto_region 12 with (at_lookup; refine wpL_look_ok _ rfl _ _ rfl (.slice none 0 0) Try.underlying65 Try.underlying53 (zero51 _) rfl rfl HQ.out ?_; rw [HL.out]; simp only [Option.getD_some, Option.isSome_some])
        refine normal_only ?_
        refine start_ (n := 9) (S := fun w' => w'.cell? ⟨qbx, 0, none⟩ = some (.map (some qb)) ∧ w'.cell? ⟨w.heap.size + 1, 0, none⟩ = some (.int .u64 i) ∧ w'.cell? ⟨w.heap.size + 1, 1, none⟩ = some (.pointer (some ⟨b, 0, none⟩))) (ds := [8]) #[false, false, false, false, false, false, false, false, false] (by kernel_rfl) rfl rfl ⟨u3, M0, M1⟩ (fun hHeld => ?_)
        refine pure_ (i := 1) (N := some 58) (v := ?_) (a' := ?_) #[false, true, false, false, false, false, false, false, false] rfl rfl (by kernel_rfl) (fun _ _ _ h => nomatch h.1) (Or.inl ⟨by rfl, ?_⟩) ?_ ?_
        rotate_left
        · intro w'
          go_simp
          with_reducible rfl
        rotate_left
        · simp only [Act.put, List.setIfInBounds_toArray, List.set_cons_zero, List.set_cons_succ, i64_w, i32_w]
          rfl
        refine pure_ (i := 3) (N := some 60) (v := ?_) (a' := ?_) #[false, true, false, true, false, false, false, false, false] rfl rfl (by kernel_rfl) (fun _ _ _ h => nomatch h.1) (Or.inl ⟨by rfl, ?_⟩) ?_ ?_
        rotate_left
        · intro w'
          go_simp
          with_reducible rfl
        rotate_left
        · simp only [Act.put, List.setIfInBounds_toArray, List.set_cons_zero, List.set_cons_succ, i64_w, i32_w]
          rfl
        refine pure_ (i := 4) (N := some 61) (v := ?_) (a' := ?_) #[false, true, false, true, true, false, false, false, false] rfl rfl (by kernel_rfl) (fun _ _ _ h => nomatch h.1) (Or.inl ⟨by rfl, ?_⟩) ?_ ?_
        rotate_left
        · intro w'
          go_simp
          with_reducible rfl
        rotate_left
        · simp only [Act.put, List.setIfInBounds_toArray, List.set_cons_zero, List.set_cons_succ, i64_w, i32_w]
          rfl
        refine take_ (i := 0) (N := some 57) (v := ?_) (a' := ?_) #[true, true, false, true, true, false, false, false, false] rfl rfl (by kernel_rfl) (fun _ _ _ h => nomatch h.1) (Or.inl ⟨by rfl, ?_⟩) hHeld ?_ ?_
        rotate_left
        · rintro w' ⟨s0, s1, s2⟩
          go_simp
          with_reducible rfl
        rotate_left
        · simp only [Act.put, List.setIfInBounds_toArray, List.set_cons_zero, List.set_cons_succ, i64_w, i32_w]
          rfl
        refine take_ (i := 2) (N := some 59) (v := ?_) (a' := ?_) #[true, true, true, true, true, false, false, false, false] rfl rfl (by kernel_rfl) (fun _ _ _ h => nomatch h.1) (Or.inl ⟨by rfl, ?_⟩) hHeld ?_ ?_
        rotate_left
        · rintro w' ⟨s0, s1, s2⟩
          go_simp
          with_reducible rfl
        rotate_left
        · simp only [Act.put, List.setIfInBounds_toArray, List.set_cons_zero, List.set_cons_succ, i64_w, i32_w]
          rfl
        refine take_ (i := 5) (N := some 62) (v := ?_) (a' := ?_) #[true, true, true, true, true, true, false, false, false] rfl rfl (by kernel_rfl) (fun _ _ _ h => nomatch h.1) (Or.inl ⟨by rfl, ?_⟩) hHeld ?_ ?_
        rotate_left
        · rintro w' ⟨s0, s1, s2⟩
          go_simp
          with_reducible rfl
        rotate_left
        · simp only [Act.put, List.setIfInBounds_toArray, List.set_cons_zero, List.set_cons_succ, i64_w, i32_w]
          rfl
        refine one_ (i := 6) (N := some 63) #[true, true, true, true, true, true, true, false, false] rfl rfl (by kernel_rfl) (by decide) (fun K hK => ?_)
        refine value_ (w1 := ?_) (v := ?_) (by rfl) rfl ?_ ?_
        rotate_left 2
        · go_simp
          constructor
          · rfl
          · rfl
        refine hK.out _ _ ⟨past1 (w := wc.drew) u3 _, past1 (w := wc.drew) M0 _, past1 (w := wc.drew) M1 _⟩ (fun hHeld => ?_)
        clear hK K
        refine norm_ (a' := ?_) ?_ ?_
        rotate_left
        · show Act.put _ (some 63) _ = _
          simp only [Act.put, List.setIfInBounds_toArray, List.set_cons_zero, List.set_cons_succ, i64_w, i32_w]
          rfl
        refine one_ (i := 7) (N := some 64) #[true, true, true, true, true, true, true, true, false] rfl rfl (by kernel_rfl) (by decide) (fun K hK => ?_)
        refine Kd.R_append_step ptrK (w0 := wc) (W := wc.drew) 0 (by rfl) (.tmp 60) (.tmp 63) 51 57 (.pointer none) 8 (by rfl) Try.underlying51 info57 rfl (by decide) (by decide) vv (content ws i) b [ptr b] (fun k => T1 k ∨ k = b) (fun _ => False) rfl rfl rfl (fun _ h => h.elim) (fun k hk => .inl (HX1.out.tf k hk)) (Kd.R_drew HRW.out) ((Below.refl 0 wc).drew) (Nat.zero_le _) hlb ?_
        intro v1 w1 hr1 hb1 hg1 hn1
        obtain ⟨A1, c1, rfl⟩ := Kd.R_slice hr1
        have kg : Kp wc w1 (fun k => some k = vv.ownBlock) := ((Kp.refl wc (fun k => some k = vv.ownBlock)).drew).grown hg1 (fun k hk => .inl hk.symm)
        have hq1 := kg.blk HX1.out.wr.en.blk HQN.out
        have u3' := kg.cell u3 HN1.out
        have M0' := kg.cell M0 HN2.out
        have M1' := kg.cell M1 HN2.out
        refine hK.out _ _ ⟨u3', M0', M1'⟩ (fun hHeld => ?_)
        clear hK K
        refine norm_ (a' := ?_) ?_ ?_
        rotate_left
        · show Act.put _ (some 64) _ = _
          simp only [Act.put, List.setIfInBounds_toArray, List.set_cons_zero, List.set_cons_succ, i64_w, i32_w]
          rfl
        refine last_ (i := 8) (N := none) #[true, true, true, true, true, true, true, true, true] rfl rfl (by kernel_rfl) (by decide) (fun K hK => ?_)
        refine skip_ (w1 := ?_) (by rfl) rfl ?_ ?_
        rotate_left
        · refine run_store_op (k := i) w1 (.tmp 57) (.tmp 59) (.tmp 64) ?_ (.slice A1 (content ws i ++ [b]).length c1) Try.underlying65 Try.underlying53 ?_ ?_ ?_ hq1 <;> rfl
        refine hK.out _ _ ?_
        clear hK K
        refine done_ (by kernel_rfl) ?_

        refine ⟨rfl, ?_⟩
        have hPX := Pq.PX.put (w1 := w1) (R0 := vv.ownBlock) (vn := .slice A1 (content ws i ++ [b]).length c1) HX1.out kg (fun k hk => by
          obtain ⟨x, hx, e1, e2⟩ := HXX.out
          exact ⟨x, hx, e1, e2.trans hk⟩) hD hr1 (hn1.imp (fun h => h) (fun ⟨r, h, h2⟩ => ⟨r, h, h2⟩)) HB.out HN.out
        clear hr1 hb1 hg1 hq1 u3' M0' M1'
        go_wp2_with fail
        refine leaves_cons (f := 39) (args := #[.pointer (some ⟨w.heap.size + 1 + 1, 0, none⟩), .pointer (some ⟨w.heap.size, 0, none⟩)]) (by simp) (by simp [go_sem]) ?_
        refine (un_calls (w.heap.size + 1 + 1) w.heap.size wb A0 hs.length cap0 _ _ _ _ _ _ _ _ hPX.1.hb.hb hPX.1.b2 hPX.1.hw).mono ?_
        rintro e u' w'' ⟨rfl, rfl, rfl⟩
        refine ⟨_, results_none rfl _ _ _, ?_⟩
        rw [E5.out, E6.out]
        exact pr_end (σ := ⟨till, last, pend⟩) hPX.1 HR.out ((hKw.mono (fun _ h => h.elim)).trans hPX.2 Q7.out) (fun k h => by
          rcases h with h | h
          · exact (Q7.out k h).imp (fun h => h) .inl
          · exact .inr (.inr ⟨(i, b), by simp, h.symm⟩)) HX.out.tw (.inl (Q1.out _ HX.out.tp)) (.inl (Q1.out _ HX.out.tw))
end Go.Proofs.Ytimakagmhikhfaa.Pr
